/-
  What loong64asm.Decode comes to on a row of bytes: a lemma for each of its three ends. Conditions: the bytes lie in a row of the call's own.
-/
import Derived.Test.YtiffpgjhopicaaaDoorDecN
namespace Go.Proofs.YtiffpgjhopicaaaDoor
open Go.RowKit Go.BigFrame

/-- The word of the first four bytes. -/
def wordOf (zs : List Int) : Int := zs.getD 0 0 + zs.getD 1 0 * 256 + zs.getD 2 0 * 65536 + zs.getD 3 0 * 16777216
/-- The first format that a word meets. -/
def findFmt (x : Int) : Option Sp.Fmt := Sp.tab.find? (meets · x)
theorem fits_at {zs : List Int} (h : ∀ z ∈ zs, 0 ≤ z ∧ z ≤ 255) (i : Nat) : 0 ≤ zs.getD i 0 ∧ zs.getD i 0 ≤ 255 := by
  by_cases hi : i < zs.length
  · have e : zs.getD i 0 = zs[i] := by simp [List.getD, hi]
    rw [e]; exact h _ (List.getElem_mem hi)
  · have e : zs.getD i 0 = 0 := by simp [List.getD, hi]
    rw [e]; omega
theorem word_bd {zs : List Int} (h : ∀ z ∈ zs, 0 ≤ z ∧ z ≤ 255) : 0 ≤ wordOf zs ∧ wordOf zs ≤ 4294967295 := by
  have h0 := fits_at h 0
  have h1 := fits_at h 1
  have h2 := fits_at h 2
  have h3 := fits_at h 3
  unfold wordOf
  omega

theorem le_of_row {base : Nat} {v : Value} {zs : List Int} {w : World} (hown : w.ownsRow base 5 1 v zs.length (zs.map (Value.int .u8))) (hf : ∀ z ∈ zs, 0 ≤ z ∧ z ≤ 255) (hm : zs.length ≤ 140737488355328) (hn : 4 ≤ zs.length) :
    ∃ g cap, v = .slice (some ⟨g, 0, none⟩) zs.length cap ∧ ∀ W : World, Below w.heap.size w W → Calls Tryd.prog 25 #[.slice (some ⟨g, 0, none⟩) zs.length cap] W fun e w' => e = .returned (.int .u32 (wordOf zs)) ∧ ∃ m, w' = W.drewN m := by
  rcases hown.2 with ⟨_, h0⟩ | ⟨g, cap, cur, rfl, hb, hg, _⟩
  · omega
  refine ⟨g, cap, rfl, fun W hW => ?_⟩
  have hlt : g < w.heap.size := (Array.getElem?_eq_some_iff.1 hg).1
  have cell : ∀ j, j < 4 → W.cell? ⟨g, j, none⟩ = some (.int .u8 (zs.getD j 0)) := by
    intro j hj
    refine (hW.cell (p := ⟨g, j, none⟩) hlt).trans ((hown.cellAt j (by omega)).trans ?_)
    simp [List.getD, show j < zs.length by omega]
  exact le32_any g zs.length cap _ _ _ _ W hn (by omega) (cell 0 (by omega)) (cell 1 (by omega)) (cell 2 (by omega)) (cell 3 (by omega)) (fits_at hf 0) (fits_at hf 1) (fits_at hf 2) (fits_at hf 3)

theorem decA_ok {base : Nat} {v : Value} {zs : List Int} {w : World} (hown : w.ownsRow base 5 1 v zs.length (zs.map (Value.int .u8))) (hf : ∀ z ∈ zs, 0 ≤ z ∧ z ≤ 255) (hm : zs.length ≤ 140737488355328) (hn : 4 ≤ zs.length)
    {f : Sp.Fmt} (h : findFmt (wordOf zs) = some f) : Calls Tryd.prog 20 #[v] w fun e w' => e = .returned (.tuple #[instVal f (wordOf zs), .nilIface]) ∧ Below w.heap.size w w' := by
  obtain ⟨g, cap, rfl, hle⟩ := le_of_row hown hf hm hn
  obtain ⟨hx, hx2⟩ := word_bd hf
  obtain ⟨hy, i, hi, he, hno⟩ := List.find?_eq_some_iff_getElem.1 h
  rw [tab_size] at hi
  refine dec_found g _ cap w hn _ hx hx2 hle i hi f ?_ hy (fun k h' hk hk' => ?_)
  · rw [← he]; exact List.getElem?_eq_getElem _
  · have h1 := hno k hk
    rw [List.getElem?_eq_getElem (by rw [tab_size]; omega)] at hk'
    obtain rfl := Option.some.inj hk'
    simpa using h1
theorem decA_none {base : Nat} {v : Value} {zs : List Int} {w : World} (hown : w.ownsRow base 5 1 v zs.length (zs.map (Value.int .u8))) (hf : ∀ z ∈ zs, 0 ≤ z ∧ z ≤ 255) (hm : zs.length ≤ 140737488355328) (hn : 4 ≤ zs.length)
    (h : findFmt (wordOf zs) = none) {T : TypeId} {p : Addr} (hw : 1 < w.heap.size) (he : w.cell? ⟨1, 0, none⟩ = some (.iface T (.pointer (some p)))) :
    Calls Tryd.prog 20 #[v] w fun e w' => e = .returned (.tuple #[zeroInst, .iface T (.pointer (some p))]) ∧ Below w.heap.size w w' := by
  obtain ⟨g, cap, rfl, hle⟩ := le_of_row hown hf hm hn
  refine dec_none g _ cap w hn _ hle (fun k h' hk => ?_) T p hw he
  have := List.find?_eq_none.1 h h' (List.mem_of_getElem? hk)
  simpa using this
theorem decA_short {base : Nat} {v : Value} {zs : List Int} {w : World} (hown : w.ownsRow base 5 1 v zs.length (zs.map (Value.int .u8))) (hn : zs.length < 4)
    {T : TypeId} {p : Addr} (hw : 0 < w.heap.size) (he : w.cell? ⟨0, 0, none⟩ = some (.iface T (.pointer (some p)))) :
    Calls Tryd.prog 20 #[v] w fun e w' => e = .returned (.tuple #[zeroInst, .iface T (.pointer (some p))]) ∧ Below w.heap.size w w' := by
  rcases hown.2 with ⟨rfl, h0⟩ | ⟨g, cap, cur, rfl, _⟩
  · have := dec_short none 0 0 w (by omega) T p hw he
    simpa using this
  · exact dec_short _ _ _ w hn T p hw he
end Go.Proofs.YtiffpgjhopicaaaDoor

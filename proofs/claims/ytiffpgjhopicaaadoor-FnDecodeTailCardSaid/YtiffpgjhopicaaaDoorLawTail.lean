/-
  The walk of the law FnDecodeTail: it answers true. Conditions: the two errors lie in their variables; the word has 32 bits; the tail is a row of bytes.
-/
import Derived.Test.YtiffpgjhopicaaaDoorLawEnd
namespace Go.Proofs.YtiffpgjhopicaaaDoor
open Go.RowKit Go.BigFrame

theorem like_self (a : Sp.A) : Sp.like a a = true := by
  unfold Sp.like
  split
  · rename_i h; simp [h]
  · simp [Sp.eq]
theorem word_append (x : Int) (ts : List Int) : wordOf (fourOf x ++ ts) = x := by
  have h : wordOf (fourOf x ++ ts) = wordOf (fourOf x) := by simp [wordOf, fourOf, List.getD]
  rw [h, four_word]
theorem append_fits (x : Int) (hx : 0 ≤ x ∧ x ≤ 4294967295) {ts : List Int} (h : ∀ z ∈ ts, 0 ≤ z ∧ z ≤ 255) : ∀ z ∈ fourOf x ++ ts, 0 ≤ z ∧ z ≤ 255 := by
  intro z hz
  rcases List.mem_append.1 hz with h1 | h1
  · exact four_fits x hx.1 hx.2 z h1
  · exact h z h1

set_option maxHeartbeats 4000000 in
theorem lawTail_long (x : Int) (g : Option Addr) (n cap : Nat) (w : World) (hn : 2147483647 < n) : Calls Tryd.prog 5 #[.int .u32 x, .slice g n cap] w fun e w' => e = .returned (.bool true) ∧ Below w.heap.size w w' := by
  have h : (2147483647 : Int) < n := by omega
  go_enter Tryd.func5, Tryd.ntmps5
  go_wp2
  go_ret
  exact ⟨rfl, Below.refl _ _⟩

/-- What the decoder answers at a word, whatever bytes follow: the same result, in plain numbers. -/
structure Ans where
  op : Int
  n : Nat
  kf : Nat → Int
  rf : Nat → Int
  mf : Nat → Int
  word : Int
  ok : Bool
def ansOf (x : Int) : Ans := match findFmt x with
  | some f => ⟨f.op, f.args.length, kindF f x, regF f x, numF f x, x, true⟩
  | none => ⟨0, 0, fun _ => 0, fun _ => 0, fun _ => 0, 0, false⟩
theorem ans_five (x : Int) : (ansOf x).n ≤ 5 := by
  unfold ansOf
  split
  · exact good_len (find_good ‹_›)
  · exact Nat.zero_le _
theorem impl_ans (v : Value) (zs : List Int) (w : World) (hv : BytesAt w v zs) (he : Errs w) (hn : 4 ≤ zs.length) :
    Calls Tryd.prog 12 #[v] w fun e w' => ∃ v', e = .returned (.tuple #[.int .i64 (ansOf (wordOf zs)).op, v', .int .u32 (ansOf (wordOf zs)).word, .bool (ansOf (wordOf zs)).ok]) ∧ ArgsAt w' v' (ansOf (wordOf zs)).n (ansOf (wordOf zs)).kf (ansOf (wordOf zs)).rf (ansOf (wordOf zs)).mf ∧ Below w.heap.size w w' := by
  cases hf : findFmt (wordOf zs) with
  | some f =>
    refine (impl_ok v zs w hv hn f hf).mono ?_
    rintro e w' ⟨v', rfl, hown, hb⟩
    simp only [ansOf, hf]
    exact ⟨v', rfl, args_of hown, hb⟩
  | none =>
    refine (impl_fail v zs w hv he (.inr hf)).mono ?_
    rintro e w' ⟨rfl, hb⟩
    simp only [ansOf, hf]
    exact ⟨_, rfl, ⟨none, 0, rfl, fun i hi => by omega⟩, hb⟩

set_option maxHeartbeats 8000000 in
theorem lawTail_short (x : Int) (v : Value) (ts : List Int) (w : World) (he : Errs w) (hx : 0 ≤ x ∧ x ≤ 4294967295) (hv : BytesAt w v ts) (hn : ts.length ≤ 2147483647) :
    Calls Tryd.prog 5 #[.int .u32 x, v] w fun e w' => e = .returned (.bool true) ∧ Below w.heap.size w w' := by
  obtain ⟨f, y, hy, hy1, hy2, hf, hop⟩ := add_law x hx
  obtain ⟨i5, hi, hz0, hz1, hz2⟩ := info_parts info5
  have hF : ∀ W, Errs W → Calls Tryd.prog 12 #[.slice (some ⟨W.heap.size, 0, none⟩) 4 4] (W.alloc (.cells ((fourOf x).map (Value.int .u8)).toArray 5)) fun e w' => ∃ v', e = .returned (.tuple #[.int .i64 (ansOf x).op, v', .int .u32 (ansOf x).word, .bool (ansOf x).ok]) ∧ ArgsAt w' v' (ansOf x).n (ansOf x).kf (ansOf x).rf (ansOf x).mf ∧ Below W.heap.size W w' := by
    intro W hE
    have hb : Below W.heap.size W (W.alloc (.cells ((fourOf x).map (Value.int .u8)).toArray 5)) := (Below.refl _ _).alloc (Nat.le_refl _) _
    have h := impl_ans _ _ _ (four_bytes x hx.1 hx.2 W) (hE.on hb) (Nat.le_refl _)
    rw [four_word] at h
    refine h.mono ?_
    rintro e w' ⟨v', he, ha, hb2⟩
    exact ⟨v', he, ha, below_then hb2 hb.size hb⟩
  have hG : ∀ W v2, Errs W → BytesAt W v2 (fourOf x ++ ts) → Calls Tryd.prog 12 #[v2] W fun e w' => ∃ v', e = .returned (.tuple #[.int .i64 (ansOf x).op, v', .int .u32 (ansOf x).word, .bool (ansOf x).ok]) ∧ ArgsAt w' v' (ansOf x).n (ansOf x).kf (ansOf x).rf (ansOf x).mf ∧ Below W.heap.size W w' := by
    intro W v2 hE hB
    have h := impl_ans v2 _ W hB hE (by simp [fourOf])
    rw [word_append] at h
    exact h
  have hH : ∀ W, Calls Tryd.prog 12 #[.slice (some ⟨W.heap.size, 0, none⟩) 4 4] (W.alloc (.cells ((fourOf y).map (Value.int .u8)).toArray 5)) fun e w' => ∃ v', e = .returned (.tuple #[.int .i64 5, v', .int .u32 y, .bool true]) ∧ Below W.heap.size W w' := by
    intro W
    have hb : Below W.heap.size W (W.alloc (.cells ((fourOf y).map (Value.int .u8)).toArray 5)) := (Below.refl _ _).alloc (Nat.le_refl _) _
    have h := impl_ok _ _ _ (four_bytes y hy1 hy2 W) (Nat.le_refl _) f (by rw [four_word]; exact hf)
    rw [four_word, hop] at h
    refine h.mono ?_
    rintro e w' ⟨v', he, ha, hb2⟩
    exact ⟨v', he, below_then hb2 hb.size hb⟩
  have h5 := ans_five x
  generalize ansOf x = A at *
  obtain ⟨g, cap, rfl, hgn, hc⟩ := hv.val
  have HF := Lib.hid hF
  have HG := Lib.hid hG
  have HH := Lib.hid hH
  have HE := Lib.hid he
  have HV := Lib.hid hv
  have HGN := Lib.hid hgn
  have HC := Lib.hid hc
  have hlen : ¬ (2147483647 : Int) < ts.length := by omega
  clear hF hG hH he hv hgn hc hf hop
  go_enter Tryd.func5, Tryd.ntmps5
  go_wp2_with (fail)
  refine (four_any x _ hx.1 hx.2).mono ?_
  rintro e w1 ⟨rfl, rfl⟩
  have HF1 := Lib.hid (HF.out w HE.out)
  go_wp2_with (fail)
  refine HF1.out.mono ?_
  rintro e w2 ⟨va, rfl, hA, hb2⟩
  have HA := Lib.hid hA
  have HB2 := Lib.hid hb2
  have HE2 := Lib.hid (HE.out.on hb2)
  clear hA hb2 HF1
  go_wp2_with (fail)
  refine (four_any x _ hx.1 hx.2).mono ?_
  rintro e w3 ⟨rfl, rfl⟩
  have hown0 : (w2.alloc (.cells ((fourOf x).map (Value.int .u8)).toArray 5)).ownsRow w2.heap.size 5 1 (.slice (some ⟨w2.heap.size, 0, none⟩) 4 4) 4 ((fourOf x).map (Value.int .u8)) :=
    ⟨by simp [fourOf], .inr ⟨w2.heap.size, 4, _, rfl, Nat.le_refl _, heap_alloc_new w2 _, by omega, by unfold maxLen; omega, by simp [fourOf], by simp [fourOf]⟩⟩
  have HO := Lib.hid hown0
  have HBL := Lib.hid ((Below.refl w2.heap.size w2).alloc (Nat.le_refl _) (.cells ((fourOf x).map (Value.int .u8)).toArray 5))
  clear hown0
  cases g with
  | none =>
    obtain ⟨rfl, rfl⟩ := HGN.out rfl
    have HX := Lib.hid (HF.out w2 HE2.out)
    go_wp2_with (fail)
    refine HX.out.mono ?_
    rintro e w5 ⟨vb, rfl, hB, hb5⟩
    have HA5 := Lib.hid (HA.out.on hb5)
    have HB5 := Lib.hid hB
    have HW5 := Lib.hid (below_then hb5 HB2.out.size HB2.out)
    have HH5 := Lib.hid (HH.out w5)
    clear hB hb5
    go_wp2_with (fail)
    refine (four_any y _ hy1 hy2).mono ?_
    rintro e w6 ⟨rfl, rfl⟩
    go_wp2_with (fail)
    refine HH5.out.mono ?_
    rintro e w7 ⟨vc, rfl, hb7⟩
    have HL := Lib.hid (likeAll_true A.kf A.rf A.mf A.kf A.rf A.mf A.n va vb w7 h5 (HA5.out.on hb7) (HB5.out.on hb7) (fun i _ => like_self _))
    have HW7 := Lib.hid (below_then hb7 HW5.out.size HW5.out)
    clear hb7
    go_wp2_with (fail)
    refine HL.out.mono ?_
    rintro e w8 ⟨rfl, hb8⟩
    go_wp2
    go_ret
    exact ⟨rfl, below_then hb8 HW7.out.size HW7.out⟩
  | some a =>
    go_wp2_with (at_builtin; (refine wpList_append_own _ rfl _ _ 32 rfl w2.heap.size 5 i5 (.int .u8 0) 1 1 Tryd.underlying32 hi hz0 hz1 hz2 rfl (by decide) _ 4 _ rfl HO.out a ts.length cap (ts.map (Value.int .u8)) rfl (by simp) (bytes_news ?c0 _) ?c1 ?c2 ?c3 ?c4 ?_))
    case c0 =>
      intro i hi
      obtain ⟨b, o, e, hlt, h2⟩ := HC.out i hi
      exact ⟨b, o, e, Nat.lt_of_lt_of_le hlt HB2.out.size, (HB2.out.cell hlt).trans h2⟩
    case c1 => intro u hu; obtain ⟨z, _, rfl⟩ := List.mem_map.1 hu; rfl
    case c2 => simp only [maxLen]; omega
    case c3 => omega
    case c4 => simp
    intro v' w4 hown4 hgrow _
    have hbx : Below w2.heap.size w2 w4 := HBL.out.grown hgrow (by simp) (fun k hk => by simp [Value.ownBlock] at hk; omega)
    have hby : BytesAt w4 v' (fourOf x ++ ts) := bytes_of_own (base := w2.heap.size) (by rw [List.map_append, List.length_append]; exact hown4) (append_fits x hx HV.out.fits) (by simp [fourOf]; omega)
    have hX : Calls Tryd.prog 12 #[v'] w4 fun e w' => ∃ v', e = .returned (.tuple #[.int .i64 A.op, v', .int .u32 A.word, .bool A.ok]) ∧ ArgsAt w' v' A.n A.kf A.rf A.mf ∧ Below w2.heap.size w2 w' := by
      refine (HG.out w4 v' (HE2.out.on hbx) hby).mono ?_
      rintro e w' ⟨vb, h1, h2, h3⟩
      exact ⟨vb, h1, h2, below_then h3 hbx.size hbx⟩
    have HX := Lib.hid hX
    clear hown4 hgrow hbx hby hX
    go_wp2_with (fail)
    refine HX.out.mono ?_
    rintro e w5 ⟨vb, rfl, hB, hb5⟩
    have HA5 := Lib.hid (HA.out.on hb5)
    have HB5 := Lib.hid hB
    have HW5 := Lib.hid (below_then hb5 HB2.out.size HB2.out)
    have HH5 := Lib.hid (HH.out w5)
    clear hB hb5
    go_wp2_with (fail)
    refine (four_any y _ hy1 hy2).mono ?_
    rintro e w6 ⟨rfl, rfl⟩
    go_wp2_with (fail)
    refine HH5.out.mono ?_
    rintro e w7 ⟨vc, rfl, hb7⟩
    have HL := Lib.hid (likeAll_true A.kf A.rf A.mf A.kf A.rf A.mf A.n va vb w7 h5 (HA5.out.on hb7) (HB5.out.on hb7) (fun i _ => like_self _))
    have HW7 := Lib.hid (below_then hb7 HW5.out.size HW5.out)
    clear hb7
    go_wp2_with (fail)
    refine HL.out.mono ?_
    rintro e w8 ⟨rfl, hb8⟩
    go_wp2
    go_ret
    exact ⟨rfl, below_then hb8 HW7.out.size HW7.out⟩
/-- The law's answer, for any input. -/
theorem lawTail_any (x : Int) (v : Value) (g : Option Addr) (ts : List Int) (cap : Nat) (w : World) (he : Errs w) (hx : 0 ≤ x ∧ x ≤ 4294967295) (hv : v = .slice g ts.length cap) (hb : ts.length ≤ 2147483647 → BytesAt w v ts) :
    Calls Tryd.prog 5 #[.int .u32 x, v] w fun e w' => e = .returned (.bool true) ∧ Below w.heap.size w w' := by
  by_cases h : 2147483647 < ts.length
  · subst hv; exact lawTail_long x g ts.length cap w h
  · exact lawTail_short x v ts w he hx (hb (by omega)) (by omega)
end Go.Proofs.YtiffpgjhopicaaaDoor

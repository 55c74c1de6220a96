/-
  The row of FnDecodeEnd, proved, and its tied card. Conditions: none.
-/
import Derived.Test.YtiffpgjhopicaaaDoorErrors
import Derived.Test.YtiffpgjhopicaaaDoorLawEnd
import Derived.Test.YtiffpgjhopicaaaDoorCards
import Derived.Test.YtiffpgjhopicaaaDoorTie
import Derived.SevenTiedAt
namespace Go.Proofs.YtiffpgjhopicaaaDoor
open Go.ChangeShapes Go.WideShapes Go.ChangeAt Go.RowKit

set_option maxRecDepth 100000 in
theorem liftedEnd (os : Os) (started : os.Started) (H : Type) (enc : TypeId × Value → H) :
    ReturnsInHanded {} Tryd.checked os 8 .any (fun w args => (Rows.fnDecodeEndSpec.pre enc Tryd.prog Tryd.f8 [] false w args ∧ laidMetH Tryd.prog laidTwo w) ∧ sizedMet enc Tryd.prog Tryd.f8 (OpenSpec.ofChange Rows.fnDecodeEndSpec) false w args)
      (Rows.fnDecodeEndSpec.post enc Tryd.prog Tryd.f8 false true false false) := by
  refine returnsInHanded_of_change_and (C := Tryd.checked) (X := fun w _ => laidMetH Tryd.prog laidTwo w) (fun _ _ _ hh h => h.of_heap hh) own started (by kernel_rfl) Tryd.func8
    (ChangeSpec.witness_shaped (enc := enc) (C := Tryd.checked) (os := os) (X := fun w _ => laidMetH Tryd.prog laidTwo w) false (World.doorLaid Tryd.prog 400 os) #[.int .u32 0, .int .i64 0] 8 rfl (World.shaped_of_RefB (by kernel_rfl) (by kernel_rfl)) (by kernel_rfl) (by kernel_rfl) (by kernel_rfl) (door_met os _)) ?_
  intro W base args ds gs before hval0 hW _ _ hL _
  have hval : ∀ (j : Nat) t v, Tryd.f8.params[j]? = some t → args[j]? = some v → Value.okWide Tryd.prog W .any base t v := hval0
  have hW' := hW
  obtain ⟨p, q, hA0, hV0, rfl, hfz, hnd⟩ := hW
  have hA : DataW.TrodAll enc Tryd.prog W 0 (fun _ => true) true Tryd.f8.params.toList args.toList ds p := hA0
  have hV : DataW.TrodVars enc Tryd.prog W (fun _ => true) [nameShort, nameUnknown] gs q := hV0
  rw [Tryd.params8] at hA hval
  obtain ⟨v0, v1, d0, d1, p0, p1, rfl, rfl, rfl, h0, h1⟩ := trodAll_two hA
  obtain ⟨y, rfl, rfl, rfl, wy⟩ := open_int Tryd.underlying22 (hval 0 22 v0 rfl rfl) h0
  obtain ⟨i, rfl, rfl, rfl, wi⟩ := open_int Tryd.underlying3 (hval 1 3 v1 rfl rfl) h1
  obtain ⟨g0, t0, cs0, f0, e0, q0, g1, t1, cs1, f1, e1, q1, rfl, hg0, ht0, hv0, hd0, hg1, ht1, hv1, hd1, rfl⟩ := trodVars_two hV
  obtain rfl := Option.some.inj (gShort.symm.trans hg0)
  obtain rfl := Option.some.inj (tShort.symm.trans ht0)
  obtain rfl := Option.some.inj (gUnknown.symm.trans hg1)
  obtain rfl := Option.some.inj (tUnknown.symm.trans ht1)
  obtain ⟨o0, rfl, ho0, rfl, rfl, hc0⟩ := token_of hg0 Tryd.underlying47 hv0 hd0
  obtain ⟨o1, rfl, ho1, rfl, rfl, hc1⟩ := token_of hg1 Tryd.underlying47 hv1 hd1
  clear hA0 hV0 hval0
  simp only [List.append_nil, List.nil_append] at hW'
  refine (lawEnd_any y i W (errs_of hL) (u32_bd wy)).mono fun e W' ⟨he, hb⟩ => ?_
  subst he
  have v0' := var?_under hb hg0 (var?_lt hg0 hv0) hv0
  have v1' := var?_under hb hg1 (var?_lt hg1 hv1) hv1
  refine ⟨_, rfl, _, _, _, [], [], [.cell 0 0, .cell 1 0], hW', ?_, ?_, ?_, hb.frame _, fun h => by cases h⟩
  · exact trodAll_mk1 (shut_bool Tryd.underlying4 true)
  · exact trodAll_mk2 (shut_int Tryd.underlying22 wy) (shut_int Tryd.underlying3 wi)
  · exact vars_read2 enc hg0 ht0 Tryd.underlying47 v0' ho0 hg1 ht1 Tryd.underlying47 v1' ho1 _

theorem fnDecodeEnd_holds : Rows.FnDecodeEndSaid :=
  OpenClaim.holds_of_wide 8 Tryd.f8 rfl rfl rfl rfl rfl rfl rfl ⟨rfl, rfl, rfl, rfl, rfl⟩ rfl rfl rfl rfl rfl (by kernel_rfl) Tryd.func8 (by kernel_rfl)
    (of_decide_eq_true (by kernel_rfl)) (by unfold Func.isWrapper; first | (rw [if_pos (by decide +kernel)]; kernel_rfl) | (rw [if_neg (by decide +kernel)]; exact ⟨rfl, rfl⟩))
    (fun os started H enc _ => liftedEnd os started H enc)

theorem fnDecodeEnd_card : Rows.FnDecodeEndCardSaid :=
  Claim7.holds_tied_plain_at .later [] [.sentinel, .sentinel] true (true, "b2c6976461fb29961190880f7d995edab440606d872e54ba0a63085c0a8efbb0") true
    fnDecodeEnd_holds (fun _ h => by cases h) (by kernel_rfl) (fun _ h => by cases h) fnDecodeEnd_row_tie rfl ⟨rfl, rfl⟩ (by kernel_rfl) rfl
    (fun f fn hf hfn => by
      obtain rfl : f = 8 := Option.some.inj ((show Tryd.prog.funcNamed "loop.example/pub-g03337/laws.FnDecodeEnd" = some 8 by kernel_rfl).symm.trans hf) |>.symm
      obtain rfl : fn = Tryd.f8 := (Option.some.inj (Tryd.func8.symm.trans hfn)).symm
      exact ⟨by kernel_rfl, fun j t ht => by
        rw [Tryd.params8] at ht
        have h3 : t = 22 ∨ t = 3 := by
          rcases j with _ | _ | j
          · exact .inl (by simpa using ht.symm)
          · exact .inr (by simpa using ht.symm)
          · simp at ht
        rcases h3 with rfl | rfl
        · exact (show Tryd.prog.wantsStandIn 22 = false by kernel_rfl)
        · exact (show Tryd.prog.wantsStandIn 3 = false by kernel_rfl)⟩)
    (by kernel_rfl)
end Go.Proofs.YtiffpgjhopicaaaDoor

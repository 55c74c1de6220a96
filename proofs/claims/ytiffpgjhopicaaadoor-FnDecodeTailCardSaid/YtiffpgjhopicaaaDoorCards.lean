/-
  DERIVED. GIVEN WITH THE SEED: THE CARDS: each row of YtiffpgjhopicaaaDoorRows.lean that lists a variable, with what it lists TIED to the program's text (the seventh form; the later family's looks); each row that meets fmt, with fmt's text TOLD by the authors' own Lean function (tested against real Go, not proved from fmt's source: count such statements apart). THE CARD IS WHAT COUNTS. Prove the row's statement (the work); the ties are given (YtiffpgjhopicaaaDoorTie.lean); close each card by the builder's one call (the guide's Derived/Test/ToyasCard.lean, 'card_holds'). Laid BY PROGRAM, IN A SANDBOX (cutbox-door.mjs). By AI agents, Wed Nov 11 2026. No macro, syntax, notation, axiom, sorry.
-/
import Derived.Test.YtiffpgjhopicaaaDoorRows
import GoSem.ClaimSeven
namespace Go.Proofs.YtiffpgjhopicaaaDoor
namespace Rows

/-- THE TIED CARD OF 'laws.FnDecodeMemory'. -/
def fnDecodeMemoryCard : Claim7 := { stood := { row := fnDecodeMemoryRow, standIns := [], harness := (true, "b2c6976461fb29961190880f7d995edab440606d872e54ba0a63085c0a8efbb0"), looks := true }, kinds := [], alts := [], laidByText := true, laidKinds := [.sentinel, .sentinel], laidTests := true, laidLooks := .later }
def FnDecodeMemoryCardSaid : Prop := Claim7.holds Tryd.pinned (.plain (OpenSpec.ofChange fnDecodeMemorySpec)) fnDecodeMemoryCard

/-- THE TIED CARD OF 'laws.FnDecodeReckon'. -/
def fnDecodeReckonCard : Claim7 := { stood := { row := fnDecodeReckonRow, standIns := [], harness := (true, "b2c6976461fb29961190880f7d995edab440606d872e54ba0a63085c0a8efbb0"), looks := true }, kinds := [], alts := [], laidByText := true, laidKinds := [.sentinel, .sentinel], laidTests := true, laidLooks := .later }
def FnDecodeReckonCardSaid : Prop := Claim7.holds Tryd.pinned (.plain (OpenSpec.ofChange fnDecodeReckonSpec)) fnDecodeReckonCard

/-- THE TIED CARD OF 'laws.FnDecodeTail'. -/
def fnDecodeTailCard : Claim7 := { stood := { row := fnDecodeTailRow, standIns := [], harness := (true, "b2c6976461fb29961190880f7d995edab440606d872e54ba0a63085c0a8efbb0"), looks := true }, kinds := [], alts := [], laidByText := true, laidKinds := [.sentinel, .sentinel], laidTests := true, laidLooks := .later }
def FnDecodeTailCardSaid : Prop := Claim7.holds Tryd.pinned (.plain (OpenSpec.ofChange fnDecodeTailSpec)) fnDecodeTailCard

/-- THE TIED CARD OF 'laws.FnDecodeBranch'. -/
def fnDecodeBranchCard : Claim7 := { stood := { row := fnDecodeBranchRow, standIns := [], harness := (true, "b2c6976461fb29961190880f7d995edab440606d872e54ba0a63085c0a8efbb0"), looks := true }, kinds := [], alts := [], laidByText := true, laidKinds := [.sentinel, .sentinel], laidTests := true, laidLooks := .later }
def FnDecodeBranchCardSaid : Prop := Claim7.holds Tryd.pinned (.plain (OpenSpec.ofChange fnDecodeBranchSpec)) fnDecodeBranchCard

/-- THE TIED CARD OF 'laws.FnDecodeCompare'. -/
def fnDecodeCompareCard : Claim7 := { stood := { row := fnDecodeCompareRow, standIns := [], harness := (true, "b2c6976461fb29961190880f7d995edab440606d872e54ba0a63085c0a8efbb0"), looks := true }, kinds := [], alts := [], laidByText := true, laidKinds := [.sentinel, .sentinel], laidTests := true, laidLooks := .later }
def FnDecodeCompareCardSaid : Prop := Claim7.holds Tryd.pinned (.plain (OpenSpec.ofChange fnDecodeCompareSpec)) fnDecodeCompareCard

/-- THE TIED CARD OF 'laws.FnDecodeEnd'. -/
def fnDecodeEndCard : Claim7 := { stood := { row := fnDecodeEndRow, standIns := [], harness := (true, "b2c6976461fb29961190880f7d995edab440606d872e54ba0a63085c0a8efbb0"), looks := true }, kinds := [], alts := [], laidByText := true, laidKinds := [.sentinel, .sentinel], laidTests := true, laidLooks := .later }
def FnDecodeEndCardSaid : Prop := Claim7.holds Tryd.pinned (.plain (OpenSpec.ofChange fnDecodeEndSpec)) fnDecodeEndCard

/-- THE TIED CARD OF 'laws.FnDecodeFloat'. -/
def fnDecodeFloatCard : Claim7 := { stood := { row := fnDecodeFloatRow, standIns := [], harness := (true, "b2c6976461fb29961190880f7d995edab440606d872e54ba0a63085c0a8efbb0"), looks := true }, kinds := [], alts := [], laidByText := true, laidKinds := [.sentinel, .sentinel], laidTests := true, laidLooks := .later }
def FnDecodeFloatCardSaid : Prop := Claim7.holds Tryd.pinned (.plain (OpenSpec.ofChange fnDecodeFloatSpec)) fnDecodeFloatCard

/-- THE SECOND FORM's CARD OF 'laws.FnDecodeMemory'. -/
def fnDecodeMemoryUptoCard : Claim7 := { stood := { row := fnDecodeMemoryUptoRow, standIns := [], harness := (true, "b2c6976461fb29961190880f7d995edab440606d872e54ba0a63085c0a8efbb0"), looks := true }, kinds := [], alts := [], laidByText := true, laidKinds := [.sentinel, .sentinel], laidTests := true, laidLooks := .later }
def FnDecodeMemoryUptoCardSaid : Prop := Claim7.holds Tryd.pinned (.plain (OpenSpec.upto fnDecodeMemorySpec)) fnDecodeMemoryUptoCard

/-- THE SECOND FORM's CARD OF 'laws.FnDecodeReckon'. -/
def fnDecodeReckonUptoCard : Claim7 := { stood := { row := fnDecodeReckonUptoRow, standIns := [], harness := (true, "b2c6976461fb29961190880f7d995edab440606d872e54ba0a63085c0a8efbb0"), looks := true }, kinds := [], alts := [], laidByText := true, laidKinds := [.sentinel, .sentinel], laidTests := true, laidLooks := .later }
def FnDecodeReckonUptoCardSaid : Prop := Claim7.holds Tryd.pinned (.plain (OpenSpec.upto fnDecodeReckonSpec)) fnDecodeReckonUptoCard

/-- THE SECOND FORM's CARD OF 'laws.FnDecodeTail'. -/
def fnDecodeTailUptoCard : Claim7 := { stood := { row := fnDecodeTailUptoRow, standIns := [], harness := (true, "b2c6976461fb29961190880f7d995edab440606d872e54ba0a63085c0a8efbb0"), looks := true }, kinds := [], alts := [], laidByText := true, laidKinds := [.sentinel, .sentinel], laidTests := true, laidLooks := .later }
def FnDecodeTailUptoCardSaid : Prop := Claim7.holds Tryd.pinned (.plain (OpenSpec.upto fnDecodeTailSpec)) fnDecodeTailUptoCard

/-- THE SECOND FORM's CARD OF 'laws.FnDecodeBranch'. -/
def fnDecodeBranchUptoCard : Claim7 := { stood := { row := fnDecodeBranchUptoRow, standIns := [], harness := (true, "b2c6976461fb29961190880f7d995edab440606d872e54ba0a63085c0a8efbb0"), looks := true }, kinds := [], alts := [], laidByText := true, laidKinds := [.sentinel, .sentinel], laidTests := true, laidLooks := .later }
def FnDecodeBranchUptoCardSaid : Prop := Claim7.holds Tryd.pinned (.plain (OpenSpec.upto fnDecodeBranchSpec)) fnDecodeBranchUptoCard

/-- THE SECOND FORM's CARD OF 'laws.FnDecodeCompare'. -/
def fnDecodeCompareUptoCard : Claim7 := { stood := { row := fnDecodeCompareUptoRow, standIns := [], harness := (true, "b2c6976461fb29961190880f7d995edab440606d872e54ba0a63085c0a8efbb0"), looks := true }, kinds := [], alts := [], laidByText := true, laidKinds := [.sentinel, .sentinel], laidTests := true, laidLooks := .later }
def FnDecodeCompareUptoCardSaid : Prop := Claim7.holds Tryd.pinned (.plain (OpenSpec.upto fnDecodeCompareSpec)) fnDecodeCompareUptoCard

/-- THE SECOND FORM's CARD OF 'laws.FnDecodeEnd'. -/
def fnDecodeEndUptoCard : Claim7 := { stood := { row := fnDecodeEndUptoRow, standIns := [], harness := (true, "b2c6976461fb29961190880f7d995edab440606d872e54ba0a63085c0a8efbb0"), looks := true }, kinds := [], alts := [], laidByText := true, laidKinds := [.sentinel, .sentinel], laidTests := true, laidLooks := .later }
def FnDecodeEndUptoCardSaid : Prop := Claim7.holds Tryd.pinned (.plain (OpenSpec.upto fnDecodeEndSpec)) fnDecodeEndUptoCard

/-- THE SECOND FORM's CARD OF 'laws.FnDecodeFloat'. -/
def fnDecodeFloatUptoCard : Claim7 := { stood := { row := fnDecodeFloatUptoRow, standIns := [], harness := (true, "b2c6976461fb29961190880f7d995edab440606d872e54ba0a63085c0a8efbb0"), looks := true }, kinds := [], alts := [], laidByText := true, laidKinds := [.sentinel, .sentinel], laidTests := true, laidLooks := .later }
def FnDecodeFloatUptoCardSaid : Prop := Claim7.holds Tryd.pinned (.plain (OpenSpec.upto fnDecodeFloatSpec)) fnDecodeFloatUptoCard
end Rows
end Go.Proofs.YtiffpgjhopicaaaDoor

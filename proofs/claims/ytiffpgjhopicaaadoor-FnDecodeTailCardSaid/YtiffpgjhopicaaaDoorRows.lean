/-
  NARROWER THAN 'FOR EVERY INPUT', by the rows' own cells (each row's printed sentence says how): FnDecodeMemory: ifaces, laid · FnDecodeReckon: ifaces, laid · FnDecodeTail: ifaces, laid · FnDecodeBranch: ifaces, laid · FnDecodeCompare: ifaces, laid · FnDecodeEnd: ifaces, laid · FnDecodeFloat: ifaces, laid.
  DERIVED. THE GIVEN ROWS OF THIS SEAT. 7 by the template 'for every input the law returns true; each argument reads behind the call as it read before'; 0 by the template 'total and deterministic' (their statements: YtiffpgjhopicaaaDoorTotals.lean).
  GIVEN WITH THE SEED: the statements are not yours to turn. If you find one false, say at which input.
  Laid BY PROGRAM, IN A SANDBOX (cutbox-rows.mjs): the forced cells as the released guide's own fill.sh prints them over the translation f932f491ae17d2f7… (all of the seat's roots in one cut). By AI agents, Wed Nov 11 2026. No macro, syntax, notation, axiom, sorry.
-/
import Derived.Test.YtiffpgjhopicaaaDoorChecked
import GoSem.Claim
import GoSem.ClaimJoined
import GoSem.ClaimMapViews
import Derived.JoinedTies
import Derived.KernelRfl
namespace Go.Proofs.YtiffpgjhopicaaaDoor
/- THE CELL 'sum', in the pinned program and in every row, IS THE sha256 OF THE DUMP (.gsa) THAT YtiffpgjhopicaaaDoorProg.lean LOADS. Nothing in Lean hashes anything: it is a label: what it is worth is what the hold of that sum in a sandbox is worth. -/
noncomputable def Tryd.pinned : Pinned := { name := "ytiffpgjhopicaaadoor", sum := "f932f491ae17d2f7ea5ee612dfa2b8096cd679defe4d160afd624026cf8b0a9e", checked := Tryd.checked }
namespace Rows
def none {H : Type} : Left H := { results := [], args := [] }

/- WHAT THE LISTED PACKAGE-LEVEL VARIABLES READ AS WHEN THE CALL BEGINS. Each datum BY PROGRAM (the guide's laid-datum.mjs) off the statement by which the dump's own 'gosem.cut.vars' lays the variable. In a bare row this is a premise. The card (YtiffpgjhopicaaaDoorCards.lean) ties it to the program's text. -/
def laid_loop_example_pub_g03337_pub_loong64asm_errShort {H : Type} : DataW H := .iface "*errors.errorString" (.ptr (.agg [.lit (.string [116, 114, 117, 110, 99, 97, 116, 101, 100, 32, 105, 110, 115, 116, 114, 117, 99, 116, 105, 111, 110])]))
def laid_loop_example_pub_g03337_pub_loong64asm_errUnknown {H : Type} : DataW H := .iface "*errors.errorString" (.ptr (.agg [.lit (.string [117, 110, 107, 110, 111, 119, 110, 32, 105, 110, 115, 116, 114, 117, 99, 116, 105, 111, 110])]))

/-- 'laws.FnDecodeMemory': WHATEVER THE INPUT: true; the input reads as it did. -/
def fnDecodeMemorySpec : ChangeSpec := { name := "fnDecodeMemory", vars := ["loop.example/pub-g03337/pub/loong64asm.errShort", "loop.example/pub-g03337/pub/loong64asm.errUnknown"], fn := fun _ => fun
  | [d1, d2, g1, g2] => { results := [.lit (.bool true)], args := [d1, d2], vars := [g1, g2] }
  | _ => none }
def fnDecodeMemoryRow : OpenClaim := { program := "ytiffpgjhopicaaadoor", sum := "f932f491ae17d2f7ea5ee612dfa2b8096cd679defe4d160afd624026cf8b0a9e", func := "loop.example/pub-g03337/laws.FnDecodeMemory", spec := "fnDecodeMemory", named := ["loop.example/pub-g03337/pub/loong64asm.errShort", "loop.example/pub-g03337/pub/loong64asm.errUnknown"], ifaces := true, apart := false, laid := [("loop.example/pub-g03337/pub/loong64asm.errShort", laid_loop_example_pub_g03337_pub_loong64asm_errShort), ("loop.example/pub-g03337/pub/loong64asm.errUnknown", laid_loop_example_pub_g03337_pub_loong64asm_errUnknown)] }
def FnDecodeMemorySaid : Prop := fnDecodeMemoryRow.holds Tryd.pinned (OpenSpec.ofChange fnDecodeMemorySpec)

/-- ITS FALSE NEIGHBOUR: 'it returns false'. Refute it at one input. -/
def fnDecodeMemoryWrong : ChangeSpec := { name := "fnDecodeMemory", vars := ["loop.example/pub-g03337/pub/loong64asm.errShort", "loop.example/pub-g03337/pub/loong64asm.errUnknown"], fn := fun _ => fun
  | [d1, d2, g1, g2] => { results := [.lit (.bool false)], args := [d1, d2], vars := [g1, g2] }
  | _ => none }
def FnDecodeMemoryWrongFalsely : Prop := fnDecodeMemoryRow.holds Tryd.pinned (OpenSpec.ofChange fnDecodeMemoryWrong)

/-- 'laws.FnDecodeReckon': WHATEVER THE INPUT: true; the input reads as it did. -/
def fnDecodeReckonSpec : ChangeSpec := { name := "fnDecodeReckon", vars := ["loop.example/pub-g03337/pub/loong64asm.errShort", "loop.example/pub-g03337/pub/loong64asm.errUnknown"], fn := fun _ => fun
  | [d1, d2, g1, g2] => { results := [.lit (.bool true)], args := [d1, d2], vars := [g1, g2] }
  | _ => none }
def fnDecodeReckonRow : OpenClaim := { program := "ytiffpgjhopicaaadoor", sum := "f932f491ae17d2f7ea5ee612dfa2b8096cd679defe4d160afd624026cf8b0a9e", func := "loop.example/pub-g03337/laws.FnDecodeReckon", spec := "fnDecodeReckon", named := ["loop.example/pub-g03337/pub/loong64asm.errShort", "loop.example/pub-g03337/pub/loong64asm.errUnknown"], ifaces := true, apart := false, laid := [("loop.example/pub-g03337/pub/loong64asm.errShort", laid_loop_example_pub_g03337_pub_loong64asm_errShort), ("loop.example/pub-g03337/pub/loong64asm.errUnknown", laid_loop_example_pub_g03337_pub_loong64asm_errUnknown)] }
def FnDecodeReckonSaid : Prop := fnDecodeReckonRow.holds Tryd.pinned (OpenSpec.ofChange fnDecodeReckonSpec)

/-- ITS FALSE NEIGHBOUR: 'it returns false'. Refute it at one input. -/
def fnDecodeReckonWrong : ChangeSpec := { name := "fnDecodeReckon", vars := ["loop.example/pub-g03337/pub/loong64asm.errShort", "loop.example/pub-g03337/pub/loong64asm.errUnknown"], fn := fun _ => fun
  | [d1, d2, g1, g2] => { results := [.lit (.bool false)], args := [d1, d2], vars := [g1, g2] }
  | _ => none }
def FnDecodeReckonWrongFalsely : Prop := fnDecodeReckonRow.holds Tryd.pinned (OpenSpec.ofChange fnDecodeReckonWrong)

/-- 'laws.FnDecodeTail': WHATEVER THE INPUT: true; the input reads as it did. -/
def fnDecodeTailSpec : ChangeSpec := { name := "fnDecodeTail", vars := ["loop.example/pub-g03337/pub/loong64asm.errShort", "loop.example/pub-g03337/pub/loong64asm.errUnknown"], fn := fun _ => fun
  | [d1, d2, g1, g2] => { results := [.lit (.bool true)], args := [d1, d2], vars := [g1, g2] }
  | _ => none }
def fnDecodeTailRow : OpenClaim := { program := "ytiffpgjhopicaaadoor", sum := "f932f491ae17d2f7ea5ee612dfa2b8096cd679defe4d160afd624026cf8b0a9e", func := "loop.example/pub-g03337/laws.FnDecodeTail", spec := "fnDecodeTail", named := ["loop.example/pub-g03337/pub/loong64asm.errShort", "loop.example/pub-g03337/pub/loong64asm.errUnknown"], ifaces := true, apart := false, laid := [("loop.example/pub-g03337/pub/loong64asm.errShort", laid_loop_example_pub_g03337_pub_loong64asm_errShort), ("loop.example/pub-g03337/pub/loong64asm.errUnknown", laid_loop_example_pub_g03337_pub_loong64asm_errUnknown)] }
def FnDecodeTailSaid : Prop := fnDecodeTailRow.holds Tryd.pinned (OpenSpec.ofChange fnDecodeTailSpec)

/-- ITS FALSE NEIGHBOUR: 'it returns false'. Refute it at one input. -/
def fnDecodeTailWrong : ChangeSpec := { name := "fnDecodeTail", vars := ["loop.example/pub-g03337/pub/loong64asm.errShort", "loop.example/pub-g03337/pub/loong64asm.errUnknown"], fn := fun _ => fun
  | [d1, d2, g1, g2] => { results := [.lit (.bool false)], args := [d1, d2], vars := [g1, g2] }
  | _ => none }
def FnDecodeTailWrongFalsely : Prop := fnDecodeTailRow.holds Tryd.pinned (OpenSpec.ofChange fnDecodeTailWrong)

/-- 'laws.FnDecodeBranch': WHATEVER THE INPUT: true; the input reads as it did. -/
def fnDecodeBranchSpec : ChangeSpec := { name := "fnDecodeBranch", vars := ["loop.example/pub-g03337/pub/loong64asm.errShort", "loop.example/pub-g03337/pub/loong64asm.errUnknown"], fn := fun _ => fun
  | [d1, d2, g1, g2] => { results := [.lit (.bool true)], args := [d1, d2], vars := [g1, g2] }
  | _ => none }
def fnDecodeBranchRow : OpenClaim := { program := "ytiffpgjhopicaaadoor", sum := "f932f491ae17d2f7ea5ee612dfa2b8096cd679defe4d160afd624026cf8b0a9e", func := "loop.example/pub-g03337/laws.FnDecodeBranch", spec := "fnDecodeBranch", named := ["loop.example/pub-g03337/pub/loong64asm.errShort", "loop.example/pub-g03337/pub/loong64asm.errUnknown"], ifaces := true, apart := false, laid := [("loop.example/pub-g03337/pub/loong64asm.errShort", laid_loop_example_pub_g03337_pub_loong64asm_errShort), ("loop.example/pub-g03337/pub/loong64asm.errUnknown", laid_loop_example_pub_g03337_pub_loong64asm_errUnknown)] }
def FnDecodeBranchSaid : Prop := fnDecodeBranchRow.holds Tryd.pinned (OpenSpec.ofChange fnDecodeBranchSpec)

/-- ITS FALSE NEIGHBOUR: 'it returns false'. Refute it at one input. -/
def fnDecodeBranchWrong : ChangeSpec := { name := "fnDecodeBranch", vars := ["loop.example/pub-g03337/pub/loong64asm.errShort", "loop.example/pub-g03337/pub/loong64asm.errUnknown"], fn := fun _ => fun
  | [d1, d2, g1, g2] => { results := [.lit (.bool false)], args := [d1, d2], vars := [g1, g2] }
  | _ => none }
def FnDecodeBranchWrongFalsely : Prop := fnDecodeBranchRow.holds Tryd.pinned (OpenSpec.ofChange fnDecodeBranchWrong)

/-- 'laws.FnDecodeCompare': WHATEVER THE INPUT: true; the input reads as it did. -/
def fnDecodeCompareSpec : ChangeSpec := { name := "fnDecodeCompare", vars := ["loop.example/pub-g03337/pub/loong64asm.errShort", "loop.example/pub-g03337/pub/loong64asm.errUnknown"], fn := fun _ => fun
  | [d1, d2, g1, g2] => { results := [.lit (.bool true)], args := [d1, d2], vars := [g1, g2] }
  | _ => none }
def fnDecodeCompareRow : OpenClaim := { program := "ytiffpgjhopicaaadoor", sum := "f932f491ae17d2f7ea5ee612dfa2b8096cd679defe4d160afd624026cf8b0a9e", func := "loop.example/pub-g03337/laws.FnDecodeCompare", spec := "fnDecodeCompare", named := ["loop.example/pub-g03337/pub/loong64asm.errShort", "loop.example/pub-g03337/pub/loong64asm.errUnknown"], ifaces := true, apart := false, laid := [("loop.example/pub-g03337/pub/loong64asm.errShort", laid_loop_example_pub_g03337_pub_loong64asm_errShort), ("loop.example/pub-g03337/pub/loong64asm.errUnknown", laid_loop_example_pub_g03337_pub_loong64asm_errUnknown)] }
def FnDecodeCompareSaid : Prop := fnDecodeCompareRow.holds Tryd.pinned (OpenSpec.ofChange fnDecodeCompareSpec)

/-- ITS FALSE NEIGHBOUR: 'it returns false'. Refute it at one input. -/
def fnDecodeCompareWrong : ChangeSpec := { name := "fnDecodeCompare", vars := ["loop.example/pub-g03337/pub/loong64asm.errShort", "loop.example/pub-g03337/pub/loong64asm.errUnknown"], fn := fun _ => fun
  | [d1, d2, g1, g2] => { results := [.lit (.bool false)], args := [d1, d2], vars := [g1, g2] }
  | _ => none }
def FnDecodeCompareWrongFalsely : Prop := fnDecodeCompareRow.holds Tryd.pinned (OpenSpec.ofChange fnDecodeCompareWrong)

/-- 'laws.FnDecodeEnd': WHATEVER THE INPUT: true; the input reads as it did. -/
def fnDecodeEndSpec : ChangeSpec := { name := "fnDecodeEnd", vars := ["loop.example/pub-g03337/pub/loong64asm.errShort", "loop.example/pub-g03337/pub/loong64asm.errUnknown"], fn := fun _ => fun
  | [d1, d2, g1, g2] => { results := [.lit (.bool true)], args := [d1, d2], vars := [g1, g2] }
  | _ => none }
def fnDecodeEndRow : OpenClaim := { program := "ytiffpgjhopicaaadoor", sum := "f932f491ae17d2f7ea5ee612dfa2b8096cd679defe4d160afd624026cf8b0a9e", func := "loop.example/pub-g03337/laws.FnDecodeEnd", spec := "fnDecodeEnd", named := ["loop.example/pub-g03337/pub/loong64asm.errShort", "loop.example/pub-g03337/pub/loong64asm.errUnknown"], ifaces := true, apart := false, laid := [("loop.example/pub-g03337/pub/loong64asm.errShort", laid_loop_example_pub_g03337_pub_loong64asm_errShort), ("loop.example/pub-g03337/pub/loong64asm.errUnknown", laid_loop_example_pub_g03337_pub_loong64asm_errUnknown)] }
def FnDecodeEndSaid : Prop := fnDecodeEndRow.holds Tryd.pinned (OpenSpec.ofChange fnDecodeEndSpec)

/-- ITS FALSE NEIGHBOUR: 'it returns false'. Refute it at one input. -/
def fnDecodeEndWrong : ChangeSpec := { name := "fnDecodeEnd", vars := ["loop.example/pub-g03337/pub/loong64asm.errShort", "loop.example/pub-g03337/pub/loong64asm.errUnknown"], fn := fun _ => fun
  | [d1, d2, g1, g2] => { results := [.lit (.bool false)], args := [d1, d2], vars := [g1, g2] }
  | _ => none }
def FnDecodeEndWrongFalsely : Prop := fnDecodeEndRow.holds Tryd.pinned (OpenSpec.ofChange fnDecodeEndWrong)

/-- 'laws.FnDecodeFloat': WHATEVER THE INPUT: true; the input reads as it did. -/
def fnDecodeFloatSpec : ChangeSpec := { name := "fnDecodeFloat", vars := ["loop.example/pub-g03337/pub/loong64asm.errShort", "loop.example/pub-g03337/pub/loong64asm.errUnknown"], fn := fun _ => fun
  | [d1, d2, g1, g2] => { results := [.lit (.bool true)], args := [d1, d2], vars := [g1, g2] }
  | _ => none }
def fnDecodeFloatRow : OpenClaim := { program := "ytiffpgjhopicaaadoor", sum := "f932f491ae17d2f7ea5ee612dfa2b8096cd679defe4d160afd624026cf8b0a9e", func := "loop.example/pub-g03337/laws.FnDecodeFloat", spec := "fnDecodeFloat", named := ["loop.example/pub-g03337/pub/loong64asm.errShort", "loop.example/pub-g03337/pub/loong64asm.errUnknown"], ifaces := true, apart := false, laid := [("loop.example/pub-g03337/pub/loong64asm.errShort", laid_loop_example_pub_g03337_pub_loong64asm_errShort), ("loop.example/pub-g03337/pub/loong64asm.errUnknown", laid_loop_example_pub_g03337_pub_loong64asm_errUnknown)] }
def FnDecodeFloatSaid : Prop := fnDecodeFloatRow.holds Tryd.pinned (OpenSpec.ofChange fnDecodeFloatSpec)

/-- ITS FALSE NEIGHBOUR: 'it returns false'. Refute it at one input. -/
def fnDecodeFloatWrong : ChangeSpec := { name := "fnDecodeFloat", vars := ["loop.example/pub-g03337/pub/loong64asm.errShort", "loop.example/pub-g03337/pub/loong64asm.errUnknown"], fn := fun _ => fun
  | [d1, d2, g1, g2] => { results := [.lit (.bool false)], args := [d1, d2], vars := [g1, g2] }
  | _ => none }
def FnDecodeFloatWrongFalsely : Prop := fnDecodeFloatRow.holds Tryd.pinned (OpenSpec.ofChange fnDecodeFloatWrong)

/- THE SECOND FORM. 'bulk': how many values and letters a reading holds, each counted each time it is reached (what is shared counts as often as it is met; a slice's spare places count too). A statement '..UptoSaid' is the law's where the arguments, and the package variables that the reading takes, are together of bulk at most 1048576: NARROWER than '..Said'. Prove '..Said' where nothing that the law and all that it calls make is longer than what came in: it says more and counts as full. Else prove '..UptoSaid'. A law counts once. -/
mutual
def uptoBulk {H : Type} : DataW H → Nat
  | .lit (.string bytes) => bytes.length + 1
  | .lit _ => 1
  | .nil => 1
  | .ptr d => uptoBulk d + 1
  | .slice elems spare => uptoBulkAll elems + uptoBulkAll spare + 1
  | .agg parts => uptoBulkAll parts + 1
  | .iface _ d => uptoBulk d + 1
  | .map entries => uptoBulkEntries entries + 1
  | .held _ => 1
def uptoBulkAll {H : Type} : List (DataW H) → Nat
  | [] => 0
  | d :: r => uptoBulk d + uptoBulkAll r
def uptoBulkEntries {H : Type} : List (Lit × DataW H) → Nat
  | [] => 0
  | x :: r => uptoBulkEntry x + uptoBulkEntries r
def uptoBulkEntry {H : Type} : Lit × DataW H → Nat
  | (.string bytes, d) => bytes.length + uptoBulk d + 1
  | (_, d) => uptoBulk d + 1
 end
def uptoSmall : (H : Type) → List (DataW H) → Bool := fun _ ds => decide (uptoBulkAll ds ≤ 1048576)
def OpenSpec.upto (s : _root_.Go.ChangeSpec) : _root_.Go.OpenSpec := { _root_.Go.OpenSpec.ofChange s with cond := some uptoSmall }

/-- 'laws.FnDecodeMemory', WHERE WHAT IT READS IS OF BULK AT MOST 1048576: true; the input reads as it did. -/
def fnDecodeMemoryUptoRow : OpenClaim := { program := "ytiffpgjhopicaaadoor", sum := "f932f491ae17d2f7ea5ee612dfa2b8096cd679defe4d160afd624026cf8b0a9e", func := "loop.example/pub-g03337/laws.FnDecodeMemory", spec := "fnDecodeMemory", named := ["loop.example/pub-g03337/pub/loong64asm.errShort", "loop.example/pub-g03337/pub/loong64asm.errUnknown"], ifaces := true, apart := false, laid := [("loop.example/pub-g03337/pub/loong64asm.errShort", laid_loop_example_pub_g03337_pub_loong64asm_errShort), ("loop.example/pub-g03337/pub/loong64asm.errUnknown", laid_loop_example_pub_g03337_pub_loong64asm_errUnknown)], narrowed := true }
def FnDecodeMemoryUptoSaid : Prop := fnDecodeMemoryUptoRow.holds Tryd.pinned (OpenSpec.upto fnDecodeMemorySpec)

/-- 'laws.FnDecodeReckon', WHERE WHAT IT READS IS OF BULK AT MOST 1048576: true; the input reads as it did. -/
def fnDecodeReckonUptoRow : OpenClaim := { program := "ytiffpgjhopicaaadoor", sum := "f932f491ae17d2f7ea5ee612dfa2b8096cd679defe4d160afd624026cf8b0a9e", func := "loop.example/pub-g03337/laws.FnDecodeReckon", spec := "fnDecodeReckon", named := ["loop.example/pub-g03337/pub/loong64asm.errShort", "loop.example/pub-g03337/pub/loong64asm.errUnknown"], ifaces := true, apart := false, laid := [("loop.example/pub-g03337/pub/loong64asm.errShort", laid_loop_example_pub_g03337_pub_loong64asm_errShort), ("loop.example/pub-g03337/pub/loong64asm.errUnknown", laid_loop_example_pub_g03337_pub_loong64asm_errUnknown)], narrowed := true }
def FnDecodeReckonUptoSaid : Prop := fnDecodeReckonUptoRow.holds Tryd.pinned (OpenSpec.upto fnDecodeReckonSpec)

/-- 'laws.FnDecodeTail', WHERE WHAT IT READS IS OF BULK AT MOST 1048576: true; the input reads as it did. -/
def fnDecodeTailUptoRow : OpenClaim := { program := "ytiffpgjhopicaaadoor", sum := "f932f491ae17d2f7ea5ee612dfa2b8096cd679defe4d160afd624026cf8b0a9e", func := "loop.example/pub-g03337/laws.FnDecodeTail", spec := "fnDecodeTail", named := ["loop.example/pub-g03337/pub/loong64asm.errShort", "loop.example/pub-g03337/pub/loong64asm.errUnknown"], ifaces := true, apart := false, laid := [("loop.example/pub-g03337/pub/loong64asm.errShort", laid_loop_example_pub_g03337_pub_loong64asm_errShort), ("loop.example/pub-g03337/pub/loong64asm.errUnknown", laid_loop_example_pub_g03337_pub_loong64asm_errUnknown)], narrowed := true }
def FnDecodeTailUptoSaid : Prop := fnDecodeTailUptoRow.holds Tryd.pinned (OpenSpec.upto fnDecodeTailSpec)

/-- 'laws.FnDecodeBranch', WHERE WHAT IT READS IS OF BULK AT MOST 1048576: true; the input reads as it did. -/
def fnDecodeBranchUptoRow : OpenClaim := { program := "ytiffpgjhopicaaadoor", sum := "f932f491ae17d2f7ea5ee612dfa2b8096cd679defe4d160afd624026cf8b0a9e", func := "loop.example/pub-g03337/laws.FnDecodeBranch", spec := "fnDecodeBranch", named := ["loop.example/pub-g03337/pub/loong64asm.errShort", "loop.example/pub-g03337/pub/loong64asm.errUnknown"], ifaces := true, apart := false, laid := [("loop.example/pub-g03337/pub/loong64asm.errShort", laid_loop_example_pub_g03337_pub_loong64asm_errShort), ("loop.example/pub-g03337/pub/loong64asm.errUnknown", laid_loop_example_pub_g03337_pub_loong64asm_errUnknown)], narrowed := true }
def FnDecodeBranchUptoSaid : Prop := fnDecodeBranchUptoRow.holds Tryd.pinned (OpenSpec.upto fnDecodeBranchSpec)

/-- 'laws.FnDecodeCompare', WHERE WHAT IT READS IS OF BULK AT MOST 1048576: true; the input reads as it did. -/
def fnDecodeCompareUptoRow : OpenClaim := { program := "ytiffpgjhopicaaadoor", sum := "f932f491ae17d2f7ea5ee612dfa2b8096cd679defe4d160afd624026cf8b0a9e", func := "loop.example/pub-g03337/laws.FnDecodeCompare", spec := "fnDecodeCompare", named := ["loop.example/pub-g03337/pub/loong64asm.errShort", "loop.example/pub-g03337/pub/loong64asm.errUnknown"], ifaces := true, apart := false, laid := [("loop.example/pub-g03337/pub/loong64asm.errShort", laid_loop_example_pub_g03337_pub_loong64asm_errShort), ("loop.example/pub-g03337/pub/loong64asm.errUnknown", laid_loop_example_pub_g03337_pub_loong64asm_errUnknown)], narrowed := true }
def FnDecodeCompareUptoSaid : Prop := fnDecodeCompareUptoRow.holds Tryd.pinned (OpenSpec.upto fnDecodeCompareSpec)

/-- 'laws.FnDecodeEnd', WHERE WHAT IT READS IS OF BULK AT MOST 1048576: true; the input reads as it did. -/
def fnDecodeEndUptoRow : OpenClaim := { program := "ytiffpgjhopicaaadoor", sum := "f932f491ae17d2f7ea5ee612dfa2b8096cd679defe4d160afd624026cf8b0a9e", func := "loop.example/pub-g03337/laws.FnDecodeEnd", spec := "fnDecodeEnd", named := ["loop.example/pub-g03337/pub/loong64asm.errShort", "loop.example/pub-g03337/pub/loong64asm.errUnknown"], ifaces := true, apart := false, laid := [("loop.example/pub-g03337/pub/loong64asm.errShort", laid_loop_example_pub_g03337_pub_loong64asm_errShort), ("loop.example/pub-g03337/pub/loong64asm.errUnknown", laid_loop_example_pub_g03337_pub_loong64asm_errUnknown)], narrowed := true }
def FnDecodeEndUptoSaid : Prop := fnDecodeEndUptoRow.holds Tryd.pinned (OpenSpec.upto fnDecodeEndSpec)

/-- 'laws.FnDecodeFloat', WHERE WHAT IT READS IS OF BULK AT MOST 1048576: true; the input reads as it did. -/
def fnDecodeFloatUptoRow : OpenClaim := { program := "ytiffpgjhopicaaadoor", sum := "f932f491ae17d2f7ea5ee612dfa2b8096cd679defe4d160afd624026cf8b0a9e", func := "loop.example/pub-g03337/laws.FnDecodeFloat", spec := "fnDecodeFloat", named := ["loop.example/pub-g03337/pub/loong64asm.errShort", "loop.example/pub-g03337/pub/loong64asm.errUnknown"], ifaces := true, apart := false, laid := [("loop.example/pub-g03337/pub/loong64asm.errShort", laid_loop_example_pub_g03337_pub_loong64asm_errShort), ("loop.example/pub-g03337/pub/loong64asm.errUnknown", laid_loop_example_pub_g03337_pub_loong64asm_errUnknown)], narrowed := true }
def FnDecodeFloatUptoSaid : Prop := fnDecodeFloatUptoRow.holds Tryd.pinned (OpenSpec.upto fnDecodeFloatSpec)

end Rows
end Go.Proofs.YtiffpgjhopicaaaDoor

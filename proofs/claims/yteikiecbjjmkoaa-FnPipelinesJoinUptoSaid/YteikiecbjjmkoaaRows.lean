/-
  No cell of these rows narrows 'for every input' (looked for: loops, veiled, ifaces, maps, wideKeys, modest, calm, conditions, laid).
  DERIVED. THE GIVEN ROWS OF THIS SEAT. 8 by the template 'for every input the law returns true; each argument reads behind the call as it read before'; 0 by the template 'total and deterministic' (their statements: YteikiecbjjmkoaaTotals.lean).
  GIVEN WITH THE SEED: the statements are not yours to turn. If you find one false, say at which input.
  Laid BY PROGRAM, IN A SANDBOX (cutbox-rows.mjs): the forced cells as the released guide's own fill.sh prints them over the translation ffd99062778be925… (all of the seat's roots in one cut). By AI agents, Wed Nov 11 2026. No macro, syntax, notation, axiom, sorry.
-/
import Derived.Test.YteikiecbjjmkoaaChecked
import GoSem.Claim
import GoSem.ClaimJoined
import GoSem.ClaimMapViews
import Derived.JoinedTies
import Derived.KernelRfl
namespace Go.Proofs.Yteikiecbjjmkoaa
/- THE CELL 'sum', in the pinned program and in every row, IS THE sha256 OF THE DUMP (.gsa) THAT YteikiecbjjmkoaaProg.lean LOADS. Nothing in Lean hashes anything: it is a label: what it is worth is what the hold of that sum in a sandbox is worth. -/
noncomputable def Try.pinned : Pinned := { name := "yteikiecbjjmkoaa", sum := "ffd99062778be9258a05cea2fb4e0878be3d1460b0e5b0b8d39e9db3c8d165cc", checked := Try.checked }
namespace Rows
def none {H : Type} : Left H := { results := [], args := [] }

/-- 'laws.FnTextsJoin': WHATEVER THE INPUT: true; the input reads as it did. -/
def fnTextsJoinSpec : ChangeSpec := { name := "fnTextsJoin", fn := fun _ => fun
  | [d1, d2] => { results := [.lit (.bool true)], args := [d1, d2] }
  | _ => none }
def fnTextsJoinRow : OpenClaim := { program := "yteikiecbjjmkoaa", sum := "ffd99062778be9258a05cea2fb4e0878be3d1460b0e5b0b8d39e9db3c8d165cc", func := "loop.example/pub-templatetrees/laws.FnTextsJoin", spec := "fnTextsJoin", unfollowed := true, recurses := true, apart := false }
def FnTextsJoinSaid : Prop := fnTextsJoinRow.holds Try.pinned (OpenSpec.ofChange fnTextsJoinSpec)

/-- ITS FALSE NEIGHBOUR: 'it returns false'. Refute it at one input. -/
def fnTextsJoinWrong : ChangeSpec := { name := "fnTextsJoin", fn := fun _ => fun
  | [d1, d2] => { results := [.lit (.bool false)], args := [d1, d2] }
  | _ => none }
def FnTextsJoinWrongFalsely : Prop := fnTextsJoinRow.holds Try.pinned (OpenSpec.ofChange fnTextsJoinWrong)

/-- 'laws.FnTextsPrint': WHATEVER THE INPUT: true; the input reads as it did. -/
def fnTextsPrintSpec : ChangeSpec := { name := "fnTextsPrint", fn := fun _ => fun
  | [d] => { results := [.lit (.bool true)], args := [d] }
  | _ => none }
def fnTextsPrintRow : OpenClaim := { program := "yteikiecbjjmkoaa", sum := "ffd99062778be9258a05cea2fb4e0878be3d1460b0e5b0b8d39e9db3c8d165cc", func := "loop.example/pub-templatetrees/laws.FnTextsPrint", spec := "fnTextsPrint", unfollowed := true, recurses := true, apart := false }
def FnTextsPrintSaid : Prop := fnTextsPrintRow.holds Try.pinned (OpenSpec.ofChange fnTextsPrintSpec)

/-- ITS FALSE NEIGHBOUR: 'it returns false'. Refute it at one input. -/
def fnTextsPrintWrong : ChangeSpec := { name := "fnTextsPrint", fn := fun _ => fun
  | [d] => { results := [.lit (.bool false)], args := [d] }
  | _ => none }
def FnTextsPrintWrongFalsely : Prop := fnTextsPrintRow.holds Try.pinned (OpenSpec.ofChange fnTextsPrintWrong)

/-- 'laws.FnChainPrint': WHATEVER THE INPUT: true; the input reads as it did. -/
def fnChainPrintSpec : ChangeSpec := { name := "fnChainPrint", fn := fun _ => fun
  | [d1, d2] => { results := [.lit (.bool true)], args := [d1, d2] }
  | _ => none }
def fnChainPrintRow : OpenClaim := { program := "yteikiecbjjmkoaa", sum := "ffd99062778be9258a05cea2fb4e0878be3d1460b0e5b0b8d39e9db3c8d165cc", func := "loop.example/pub-templatetrees/laws.FnChainPrint", spec := "fnChainPrint", inPlace := ["internal/abi.NoEscape"], unfollowed := true, recurses := true, apart := false }
def FnChainPrintSaid : Prop := fnChainPrintRow.holds Try.pinned (OpenSpec.ofChange fnChainPrintSpec)

/-- ITS FALSE NEIGHBOUR: 'it returns false'. Refute it at one input. -/
def fnChainPrintWrong : ChangeSpec := { name := "fnChainPrint", fn := fun _ => fun
  | [d1, d2] => { results := [.lit (.bool false)], args := [d1, d2] }
  | _ => none }
def FnChainPrintWrongFalsely : Prop := fnChainPrintRow.holds Try.pinned (OpenSpec.ofChange fnChainPrintWrong)

/-- 'laws.FnCommandPrint': WHATEVER THE INPUT: true; the input reads as it did. -/
def fnCommandPrintSpec : ChangeSpec := { name := "fnCommandPrint", fn := fun _ => fun
  | [d] => { results := [.lit (.bool true)], args := [d] }
  | _ => none }
def fnCommandPrintRow : OpenClaim := { program := "yteikiecbjjmkoaa", sum := "ffd99062778be9258a05cea2fb4e0878be3d1460b0e5b0b8d39e9db3c8d165cc", func := "loop.example/pub-templatetrees/laws.FnCommandPrint", spec := "fnCommandPrint", inPlace := ["internal/abi.NoEscape"], unfollowed := true, recurses := true, apart := false }
def FnCommandPrintSaid : Prop := fnCommandPrintRow.holds Try.pinned (OpenSpec.ofChange fnCommandPrintSpec)

/-- ITS FALSE NEIGHBOUR: 'it returns false'. Refute it at one input. -/
def fnCommandPrintWrong : ChangeSpec := { name := "fnCommandPrint", fn := fun _ => fun
  | [d] => { results := [.lit (.bool false)], args := [d] }
  | _ => none }
def FnCommandPrintWrongFalsely : Prop := fnCommandPrintRow.holds Try.pinned (OpenSpec.ofChange fnCommandPrintWrong)

/-- 'laws.FnPipelinePrint': WHATEVER THE INPUT: true; the input reads as it did. -/
def fnPipelinePrintSpec : ChangeSpec := { name := "fnPipelinePrint", fn := fun _ => fun
  | [d1, d2, d3] => { results := [.lit (.bool true)], args := [d1, d2, d3] }
  | _ => none }
def fnPipelinePrintRow : OpenClaim := { program := "yteikiecbjjmkoaa", sum := "ffd99062778be9258a05cea2fb4e0878be3d1460b0e5b0b8d39e9db3c8d165cc", func := "loop.example/pub-templatetrees/laws.FnPipelinePrint", spec := "fnPipelinePrint", inPlace := ["internal/abi.NoEscape"], unfollowed := true, recurses := true, apart := false }
def FnPipelinePrintSaid : Prop := fnPipelinePrintRow.holds Try.pinned (OpenSpec.ofChange fnPipelinePrintSpec)

/-- ITS FALSE NEIGHBOUR: 'it returns false'. Refute it at one input. -/
def fnPipelinePrintWrong : ChangeSpec := { name := "fnPipelinePrint", fn := fun _ => fun
  | [d1, d2, d3] => { results := [.lit (.bool false)], args := [d1, d2, d3] }
  | _ => none }
def FnPipelinePrintWrongFalsely : Prop := fnPipelinePrintRow.holds Try.pinned (OpenSpec.ofChange fnPipelinePrintWrong)

/-- 'laws.FnPartPrint': WHATEVER THE INPUT: true; the input reads as it did. -/
def fnPartPrintSpec : ChangeSpec := { name := "fnPartPrint", fn := fun _ => fun
  | [d] => { results := [.lit (.bool true)], args := [d] }
  | _ => none }
def fnPartPrintRow : OpenClaim := { program := "yteikiecbjjmkoaa", sum := "ffd99062778be9258a05cea2fb4e0878be3d1460b0e5b0b8d39e9db3c8d165cc", func := "loop.example/pub-templatetrees/laws.FnPartPrint", spec := "fnPartPrint", unfollowed := true, recurses := true, apart := false }
def FnPartPrintSaid : Prop := fnPartPrintRow.holds Try.pinned (OpenSpec.ofChange fnPartPrintSpec)

/-- ITS FALSE NEIGHBOUR: 'it returns false'. Refute it at one input. -/
def fnPartPrintWrong : ChangeSpec := { name := "fnPartPrint", fn := fun _ => fun
  | [d] => { results := [.lit (.bool false)], args := [d] }
  | _ => none }
def FnPartPrintWrongFalsely : Prop := fnPartPrintRow.holds Try.pinned (OpenSpec.ofChange fnPartPrintWrong)

/-- 'laws.FnCommandsJoin': WHATEVER THE INPUT: true; the input reads as it did. -/
def fnCommandsJoinSpec : ChangeSpec := { name := "fnCommandsJoin", fn := fun _ => fun
  | [d1, d2] => { results := [.lit (.bool true)], args := [d1, d2] }
  | _ => none }
def fnCommandsJoinRow : OpenClaim := { program := "yteikiecbjjmkoaa", sum := "ffd99062778be9258a05cea2fb4e0878be3d1460b0e5b0b8d39e9db3c8d165cc", func := "loop.example/pub-templatetrees/laws.FnCommandsJoin", spec := "fnCommandsJoin", inPlace := ["internal/abi.NoEscape"], unfollowed := true, recurses := true, apart := false }
def FnCommandsJoinSaid : Prop := fnCommandsJoinRow.holds Try.pinned (OpenSpec.ofChange fnCommandsJoinSpec)

/-- ITS FALSE NEIGHBOUR: 'it returns false'. Refute it at one input. -/
def fnCommandsJoinWrong : ChangeSpec := { name := "fnCommandsJoin", fn := fun _ => fun
  | [d1, d2] => { results := [.lit (.bool false)], args := [d1, d2] }
  | _ => none }
def FnCommandsJoinWrongFalsely : Prop := fnCommandsJoinRow.holds Try.pinned (OpenSpec.ofChange fnCommandsJoinWrong)

/-- 'laws.FnPipelinesJoin': WHATEVER THE INPUT: true; the input reads as it did. -/
def fnPipelinesJoinSpec : ChangeSpec := { name := "fnPipelinesJoin", fn := fun _ => fun
  | [d1, d2, d3, d4] => { results := [.lit (.bool true)], args := [d1, d2, d3, d4] }
  | _ => none }
def fnPipelinesJoinRow : OpenClaim := { program := "yteikiecbjjmkoaa", sum := "ffd99062778be9258a05cea2fb4e0878be3d1460b0e5b0b8d39e9db3c8d165cc", func := "loop.example/pub-templatetrees/laws.FnPipelinesJoin", spec := "fnPipelinesJoin", inPlace := ["internal/abi.NoEscape"], unfollowed := true, recurses := true, apart := false }
def FnPipelinesJoinSaid : Prop := fnPipelinesJoinRow.holds Try.pinned (OpenSpec.ofChange fnPipelinesJoinSpec)

/-- ITS FALSE NEIGHBOUR: 'it returns false'. Refute it at one input. -/
def fnPipelinesJoinWrong : ChangeSpec := { name := "fnPipelinesJoin", fn := fun _ => fun
  | [d1, d2, d3, d4] => { results := [.lit (.bool false)], args := [d1, d2, d3, d4] }
  | _ => none }
def FnPipelinesJoinWrongFalsely : Prop := fnPipelinesJoinRow.holds Try.pinned (OpenSpec.ofChange fnPipelinesJoinWrong)

/- THE SECOND FORM. 'bulk': how many values and letters a reading holds, each counted each time it is reached (what is shared counts as often as it is met; a slice's spare places count too). A statement '..UptoSaid' is the law's where the arguments, and the package variables that the reading takes, are together of bulk at most 1048576: NARROWER than '..Said'. Prove '..Said' where nothing that the law and all that it calls make is longer than what came in: it says more and counts as full. Else prove '..UptoSaid'. A law counts once. -/
mutual
def uptoBulk {H : Type} : DataW H → Nat
  | .lit (.string bytes) => bytes.length + 1
  | .lit _ => 1
  | .nil => 1
  | .ptr d => uptoBulk d + 1
  | .slice elems spare => uptoBulkAll elems + uptoBulkAll spare + 1
  | .agg parts => uptoBulkAll parts + 1
  | .iface _ d => uptoBulk d + 1
  | .map entries => uptoBulkEntries entries + 1
  | .held _ => 1
def uptoBulkAll {H : Type} : List (DataW H) → Nat
  | [] => 0
  | d :: r => uptoBulk d + uptoBulkAll r
def uptoBulkEntries {H : Type} : List (Lit × DataW H) → Nat
  | [] => 0
  | x :: r => uptoBulkEntry x + uptoBulkEntries r
def uptoBulkEntry {H : Type} : Lit × DataW H → Nat
  | (.string bytes, d) => bytes.length + uptoBulk d + 1
  | (_, d) => uptoBulk d + 1
 end
def uptoSmall : (H : Type) → List (DataW H) → Bool := fun _ ds => decide (uptoBulkAll ds ≤ 1048576)
def OpenSpec.upto (s : _root_.Go.ChangeSpec) : _root_.Go.OpenSpec := { _root_.Go.OpenSpec.ofChange s with cond := some uptoSmall }

/-- 'laws.FnTextsJoin', WHERE WHAT IT READS IS OF BULK AT MOST 1048576: true; the input reads as it did. -/
def fnTextsJoinUptoRow : OpenClaim := { program := "yteikiecbjjmkoaa", sum := "ffd99062778be9258a05cea2fb4e0878be3d1460b0e5b0b8d39e9db3c8d165cc", func := "loop.example/pub-templatetrees/laws.FnTextsJoin", spec := "fnTextsJoin", unfollowed := true, recurses := true, apart := false, narrowed := true }
def FnTextsJoinUptoSaid : Prop := fnTextsJoinUptoRow.holds Try.pinned (OpenSpec.upto fnTextsJoinSpec)

/-- 'laws.FnTextsPrint', WHERE WHAT IT READS IS OF BULK AT MOST 1048576: true; the input reads as it did. -/
def fnTextsPrintUptoRow : OpenClaim := { program := "yteikiecbjjmkoaa", sum := "ffd99062778be9258a05cea2fb4e0878be3d1460b0e5b0b8d39e9db3c8d165cc", func := "loop.example/pub-templatetrees/laws.FnTextsPrint", spec := "fnTextsPrint", unfollowed := true, recurses := true, apart := false, narrowed := true }
def FnTextsPrintUptoSaid : Prop := fnTextsPrintUptoRow.holds Try.pinned (OpenSpec.upto fnTextsPrintSpec)

/-- 'laws.FnChainPrint', WHERE WHAT IT READS IS OF BULK AT MOST 1048576: true; the input reads as it did. -/
def fnChainPrintUptoRow : OpenClaim := { program := "yteikiecbjjmkoaa", sum := "ffd99062778be9258a05cea2fb4e0878be3d1460b0e5b0b8d39e9db3c8d165cc", func := "loop.example/pub-templatetrees/laws.FnChainPrint", spec := "fnChainPrint", inPlace := ["internal/abi.NoEscape"], unfollowed := true, recurses := true, apart := false, narrowed := true }
def FnChainPrintUptoSaid : Prop := fnChainPrintUptoRow.holds Try.pinned (OpenSpec.upto fnChainPrintSpec)

/-- 'laws.FnCommandPrint', WHERE WHAT IT READS IS OF BULK AT MOST 1048576: true; the input reads as it did. -/
def fnCommandPrintUptoRow : OpenClaim := { program := "yteikiecbjjmkoaa", sum := "ffd99062778be9258a05cea2fb4e0878be3d1460b0e5b0b8d39e9db3c8d165cc", func := "loop.example/pub-templatetrees/laws.FnCommandPrint", spec := "fnCommandPrint", inPlace := ["internal/abi.NoEscape"], unfollowed := true, recurses := true, apart := false, narrowed := true }
def FnCommandPrintUptoSaid : Prop := fnCommandPrintUptoRow.holds Try.pinned (OpenSpec.upto fnCommandPrintSpec)

/-- 'laws.FnPipelinePrint', WHERE WHAT IT READS IS OF BULK AT MOST 1048576: true; the input reads as it did. -/
def fnPipelinePrintUptoRow : OpenClaim := { program := "yteikiecbjjmkoaa", sum := "ffd99062778be9258a05cea2fb4e0878be3d1460b0e5b0b8d39e9db3c8d165cc", func := "loop.example/pub-templatetrees/laws.FnPipelinePrint", spec := "fnPipelinePrint", inPlace := ["internal/abi.NoEscape"], unfollowed := true, recurses := true, apart := false, narrowed := true }
def FnPipelinePrintUptoSaid : Prop := fnPipelinePrintUptoRow.holds Try.pinned (OpenSpec.upto fnPipelinePrintSpec)

/-- 'laws.FnPartPrint', WHERE WHAT IT READS IS OF BULK AT MOST 1048576: true; the input reads as it did. -/
def fnPartPrintUptoRow : OpenClaim := { program := "yteikiecbjjmkoaa", sum := "ffd99062778be9258a05cea2fb4e0878be3d1460b0e5b0b8d39e9db3c8d165cc", func := "loop.example/pub-templatetrees/laws.FnPartPrint", spec := "fnPartPrint", unfollowed := true, recurses := true, apart := false, narrowed := true }
def FnPartPrintUptoSaid : Prop := fnPartPrintUptoRow.holds Try.pinned (OpenSpec.upto fnPartPrintSpec)

/-- 'laws.FnCommandsJoin', WHERE WHAT IT READS IS OF BULK AT MOST 1048576: true; the input reads as it did. -/
def fnCommandsJoinUptoRow : OpenClaim := { program := "yteikiecbjjmkoaa", sum := "ffd99062778be9258a05cea2fb4e0878be3d1460b0e5b0b8d39e9db3c8d165cc", func := "loop.example/pub-templatetrees/laws.FnCommandsJoin", spec := "fnCommandsJoin", inPlace := ["internal/abi.NoEscape"], unfollowed := true, recurses := true, apart := false, narrowed := true }
def FnCommandsJoinUptoSaid : Prop := fnCommandsJoinUptoRow.holds Try.pinned (OpenSpec.upto fnCommandsJoinSpec)

/-- 'laws.FnPipelinesJoin', WHERE WHAT IT READS IS OF BULK AT MOST 1048576: true; the input reads as it did. -/
def fnPipelinesJoinUptoRow : OpenClaim := { program := "yteikiecbjjmkoaa", sum := "ffd99062778be9258a05cea2fb4e0878be3d1460b0e5b0b8d39e9db3c8d165cc", func := "loop.example/pub-templatetrees/laws.FnPipelinesJoin", spec := "fnPipelinesJoin", inPlace := ["internal/abi.NoEscape"], unfollowed := true, recurses := true, apart := false, narrowed := true }
def FnPipelinesJoinUptoSaid : Prop := fnPipelinesJoinUptoRow.holds Try.pinned (OpenSpec.upto fnPipelinesJoinSpec)

end Rows
end Go.Proofs.Yteikiecbjjmkoaa

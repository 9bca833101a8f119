/-
  NARROWER THAN 'FOR EVERY INPUT', by the rows' own cells (each row's printed sentence says how): FnDiffTurned: loops · FnFitsDiff: loops.
  DERIVED. THE GIVEN ROWS OF THIS SEAT. 2 by the template 'for every input the law returns true; each argument reads behind the call as it read before'; 0 by the template 'total and deterministic' (their statements: YtclnpjelgdoloaaTotals.lean).
  GIVEN WITH THE SEED: the statements are not yours to turn. If you find one false, say at which input.
  Laid BY PROGRAM, IN A SANDBOX (cutbox-rows.mjs): the forced cells as the released guide's own fill.sh prints them over the translation b52b09718b60f2d2… (all of the seat's roots in one cut). By AI agents, Wed Nov 11 2026. No macro, syntax, notation, axiom, sorry.
-/
import Derived.Test.YtclnpjelgdoloaaChecked
import GoSem.Claim
import GoSem.ClaimJoined
import GoSem.ClaimMapViews
import Derived.JoinedTies
import Derived.KernelRfl
namespace Go.Proofs.Ytclnpjelgdoloaa
/- THE CELL 'sum', in the pinned program and in every row, IS THE sha256 OF THE DUMP (.gsa) THAT YtclnpjelgdoloaaProg.lean LOADS. Nothing in Lean hashes anything: it is a label: what it is worth is what the hold of that sum in a sandbox is worth. -/
noncomputable def Try.pinned : Pinned := { name := "ytclnpjelgdoloaa", sum := "b52b09718b60f2d2e3a6ef590685f8d4ba3fadb9532c86ce1d98186c8d192980", checked := Try.checked }
namespace Rows
def none {H : Type} : Left H := { results := [], args := [] }

/-- 'laws.FnDiffTurned': WHATEVER THE INPUT: true; the input reads as it did. -/
def fnDiffTurnedSpec : ChangeSpec := { name := "fnDiffTurned", fn := fun _ => fun
  | [d1, d2] => { results := [.lit (.bool true)], args := [d1, d2] }
  | _ => none }
def fnDiffTurnedRow : OpenClaim := { program := "ytclnpjelgdoloaa", sum := "b52b09718b60f2d2e3a6ef590685f8d4ba3fadb9532c86ce1d98186c8d192980", func := "pub-hodometer/laws.FnDiffTurned", spec := "fnDiffTurned", inPlace := ["math.Float64bits", "math.Float64frombits"], unfollowed := true, recurses := true, loops := true, apart := false }
def FnDiffTurnedSaid : Prop := fnDiffTurnedRow.holds Try.pinned (OpenSpec.ofChange fnDiffTurnedSpec)

/-- ITS FALSE NEIGHBOUR: 'it returns false'. Refute it at one input. -/
def fnDiffTurnedWrong : ChangeSpec := { name := "fnDiffTurned", fn := fun _ => fun
  | [d1, d2] => { results := [.lit (.bool false)], args := [d1, d2] }
  | _ => none }
def FnDiffTurnedWrongFalsely : Prop := fnDiffTurnedRow.holds Try.pinned (OpenSpec.ofChange fnDiffTurnedWrong)

/-- 'laws.FnFitsDiff': WHATEVER THE INPUT: true; the input reads as it did. -/
def fnFitsDiffSpec : ChangeSpec := { name := "fnFitsDiff", fn := fun _ => fun
  | [d1, d2] => { results := [.lit (.bool true)], args := [d1, d2] }
  | _ => none }
def fnFitsDiffRow : OpenClaim := { program := "ytclnpjelgdoloaa", sum := "b52b09718b60f2d2e3a6ef590685f8d4ba3fadb9532c86ce1d98186c8d192980", func := "pub-hodometer/laws.FnFitsDiff", spec := "fnFitsDiff", inPlace := ["math.Float64bits", "math.Float64frombits"], unfollowed := true, recurses := true, loops := true, apart := false }
def FnFitsDiffSaid : Prop := fnFitsDiffRow.holds Try.pinned (OpenSpec.ofChange fnFitsDiffSpec)

/-- ITS FALSE NEIGHBOUR: 'it returns false'. Refute it at one input. -/
def fnFitsDiffWrong : ChangeSpec := { name := "fnFitsDiff", fn := fun _ => fun
  | [d1, d2] => { results := [.lit (.bool false)], args := [d1, d2] }
  | _ => none }
def FnFitsDiffWrongFalsely : Prop := fnFitsDiffRow.holds Try.pinned (OpenSpec.ofChange fnFitsDiffWrong)

/- THE SECOND FORM. 'bulk': how many values and letters a reading holds, each counted each time it is reached (what is shared counts as often as it is met; a slice's spare places count too). A statement '..UptoSaid' is the law's where the arguments, and the package variables that the reading takes, are together of bulk at most 1048576: NARROWER than '..Said'. Prove '..Said' where nothing that the law and all that it calls make is longer than what came in: it says more and counts as full. Else prove '..UptoSaid'. A law counts once. -/
mutual
def uptoBulk {H : Type} : DataW H → Nat
  | .lit (.string bytes) => bytes.length + 1
  | .lit _ => 1
  | .nil => 1
  | .ptr d => uptoBulk d + 1
  | .slice elems spare => uptoBulkAll elems + uptoBulkAll spare + 1
  | .agg parts => uptoBulkAll parts + 1
  | .iface _ d => uptoBulk d + 1
  | .map entries => uptoBulkEntries entries + 1
  | .held _ => 1
def uptoBulkAll {H : Type} : List (DataW H) → Nat
  | [] => 0
  | d :: r => uptoBulk d + uptoBulkAll r
def uptoBulkEntries {H : Type} : List (Lit × DataW H) → Nat
  | [] => 0
  | x :: r => uptoBulkEntry x + uptoBulkEntries r
def uptoBulkEntry {H : Type} : Lit × DataW H → Nat
  | (.string bytes, d) => bytes.length + uptoBulk d + 1
  | (_, d) => uptoBulk d + 1
 end
def uptoSmall : (H : Type) → List (DataW H) → Bool := fun _ ds => decide (uptoBulkAll ds ≤ 1048576)
def OpenSpec.upto (s : _root_.Go.ChangeSpec) : _root_.Go.OpenSpec := { _root_.Go.OpenSpec.ofChange s with cond := some uptoSmall }

/-- 'laws.FnDiffTurned', WHERE WHAT IT READS IS OF BULK AT MOST 1048576: true; the input reads as it did. -/
def fnDiffTurnedUptoRow : OpenClaim := { program := "ytclnpjelgdoloaa", sum := "b52b09718b60f2d2e3a6ef590685f8d4ba3fadb9532c86ce1d98186c8d192980", func := "pub-hodometer/laws.FnDiffTurned", spec := "fnDiffTurned", inPlace := ["math.Float64bits", "math.Float64frombits"], unfollowed := true, recurses := true, loops := true, apart := false, narrowed := true }
def FnDiffTurnedUptoSaid : Prop := fnDiffTurnedUptoRow.holds Try.pinned (OpenSpec.upto fnDiffTurnedSpec)

/-- 'laws.FnFitsDiff', WHERE WHAT IT READS IS OF BULK AT MOST 1048576: true; the input reads as it did. -/
def fnFitsDiffUptoRow : OpenClaim := { program := "ytclnpjelgdoloaa", sum := "b52b09718b60f2d2e3a6ef590685f8d4ba3fadb9532c86ce1d98186c8d192980", func := "pub-hodometer/laws.FnFitsDiff", spec := "fnFitsDiff", inPlace := ["math.Float64bits", "math.Float64frombits"], unfollowed := true, recurses := true, loops := true, apart := false, narrowed := true }
def FnFitsDiffUptoSaid : Prop := fnFitsDiffUptoRow.holds Try.pinned (OpenSpec.upto fnFitsDiffSpec)

end Rows
end Go.Proofs.Ytclnpjelgdoloaa

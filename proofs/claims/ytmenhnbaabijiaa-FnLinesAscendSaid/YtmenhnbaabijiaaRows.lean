/-
  No cell of these rows narrows 'for every input' (looked for: loops, veiled, ifaces, maps, wideKeys, modest, calm, conditions, laid).
  DERIVED. THE GIVEN ROWS OF THIS SEAT. 3 by the template 'for every input the law returns true; each argument reads behind the call as it read before'; 0 by the template 'total and deterministic' (their statements: YtmenhnbaabijiaaTotals.lean).
  GIVEN WITH THE SEED: the statements are not yours to turn. If you find one false, say at which input.
  Laid BY PROGRAM, IN A SANDBOX (cutbox-rows.mjs): the forced cells as the released guide's own fill.sh prints them over the translation b450ed9084d6cfd2… (all of the seat's roots in one cut). By AI agents, Wed Nov 11 2026. No macro, syntax, notation, axiom, sorry.
-/
import Derived.Test.YtmenhnbaabijiaaChecked
import GoSem.Claim
import GoSem.ClaimJoined
import GoSem.ClaimMapViews
import Derived.JoinedTies
import Derived.KernelRfl
namespace Go.Proofs.Ytmenhnbaabijiaa
/- THE CELL 'sum', in the pinned program and in every row, IS THE sha256 OF THE DUMP (.gsa) THAT YtmenhnbaabijiaaProg.lean LOADS. Nothing in Lean hashes anything: it is a label: what it is worth is what the hold of that sum in a sandbox is worth. -/
noncomputable def Try.pinned : Pinned := { name := "ytmenhnbaabijiaa", sum := "b450ed9084d6cfd2d612cd7823f03847b6705ea39dfb8ff438144d88cbd7eb35", checked := Try.checked }
namespace Rows
def none {H : Type} : Left H := { results := [], args := [] }

/-- 'laws.FnFolds': WHATEVER THE INPUT: true; the input reads as it did. -/
def fnFoldsSpec : ChangeSpec := { name := "fnFolds", fn := fun _ => fun
  | [d1, d2, d3] => { results := [.lit (.bool true)], args := [d1, d2, d3] }
  | _ => none }
def fnFoldsRow : OpenClaim := { program := "ytmenhnbaabijiaa", sum := "b450ed9084d6cfd2d612cd7823f03847b6705ea39dfb8ff438144d88cbd7eb35", func := "pub-dabber/laws.FnFolds", spec := "fnFolds", apart := false }
def FnFoldsSaid : Prop := fnFoldsRow.holds Try.pinned (OpenSpec.ofChange fnFoldsSpec)

/-- ITS FALSE NEIGHBOUR: 'it returns false'. Refute it at one input. -/
def fnFoldsWrong : ChangeSpec := { name := "fnFolds", fn := fun _ => fun
  | [d1, d2, d3] => { results := [.lit (.bool false)], args := [d1, d2, d3] }
  | _ => none }
def FnFoldsWrongFalsely : Prop := fnFoldsRow.holds Try.pinned (OpenSpec.ofChange fnFoldsWrong)

/-- 'laws.FnBytes': WHATEVER THE INPUT: true; the input reads as it did. -/
def fnBytesSpec : ChangeSpec := { name := "fnBytes", fn := fun _ => fun
  | [d] => { results := [.lit (.bool true)], args := [d] }
  | _ => none }
def fnBytesRow : OpenClaim := { program := "ytmenhnbaabijiaa", sum := "b450ed9084d6cfd2d612cd7823f03847b6705ea39dfb8ff438144d88cbd7eb35", func := "pub-dabber/laws.FnBytes", spec := "fnBytes", apart := false }
def FnBytesSaid : Prop := fnBytesRow.holds Try.pinned (OpenSpec.ofChange fnBytesSpec)

/-- ITS FALSE NEIGHBOUR: 'it returns false'. Refute it at one input. -/
def fnBytesWrong : ChangeSpec := { name := "fnBytes", fn := fun _ => fun
  | [d] => { results := [.lit (.bool false)], args := [d] }
  | _ => none }
def FnBytesWrongFalsely : Prop := fnBytesRow.holds Try.pinned (OpenSpec.ofChange fnBytesWrong)

/-- 'laws.FnLinesAscend': WHATEVER THE INPUT: true; the input reads as it did. -/
def fnLinesAscendSpec : ChangeSpec := { name := "fnLinesAscend", fn := fun _ => fun
  | [d1, d2, d3] => { results := [.lit (.bool true)], args := [d1, d2, d3] }
  | _ => none }
def fnLinesAscendRow : OpenClaim := { program := "ytmenhnbaabijiaa", sum := "b450ed9084d6cfd2d612cd7823f03847b6705ea39dfb8ff438144d88cbd7eb35", func := "pub-dabber/laws.FnLinesAscend", spec := "fnLinesAscend", apart := false }
def FnLinesAscendSaid : Prop := fnLinesAscendRow.holds Try.pinned (OpenSpec.ofChange fnLinesAscendSpec)

/-- ITS FALSE NEIGHBOUR: 'it returns false'. Refute it at one input. -/
def fnLinesAscendWrong : ChangeSpec := { name := "fnLinesAscend", fn := fun _ => fun
  | [d1, d2, d3] => { results := [.lit (.bool false)], args := [d1, d2, d3] }
  | _ => none }
def FnLinesAscendWrongFalsely : Prop := fnLinesAscendRow.holds Try.pinned (OpenSpec.ofChange fnLinesAscendWrong)

/- THE SECOND FORM. 'bulk': how many values and letters a reading holds, each counted each time it is reached (what is shared counts as often as it is met; a slice's spare places count too). A statement '..UptoSaid' is the law's where the arguments, and the package variables that the reading takes, are together of bulk at most 1048576: NARROWER than '..Said'. Prove '..Said' where nothing that the law and all that it calls make is longer than what came in: it says more and counts as full. Else prove '..UptoSaid'. A law counts once. -/
mutual
def uptoBulk {H : Type} : DataW H → Nat
  | .lit (.string bytes) => bytes.length + 1
  | .lit _ => 1
  | .nil => 1
  | .ptr d => uptoBulk d + 1
  | .slice elems spare => uptoBulkAll elems + uptoBulkAll spare + 1
  | .agg parts => uptoBulkAll parts + 1
  | .iface _ d => uptoBulk d + 1
  | .map entries => uptoBulkEntries entries + 1
  | .held _ => 1
def uptoBulkAll {H : Type} : List (DataW H) → Nat
  | [] => 0
  | d :: r => uptoBulk d + uptoBulkAll r
def uptoBulkEntries {H : Type} : List (Lit × DataW H) → Nat
  | [] => 0
  | x :: r => uptoBulkEntry x + uptoBulkEntries r
def uptoBulkEntry {H : Type} : Lit × DataW H → Nat
  | (.string bytes, d) => bytes.length + uptoBulk d + 1
  | (_, d) => uptoBulk d + 1
 end
def uptoSmall : (H : Type) → List (DataW H) → Bool := fun _ ds => decide (uptoBulkAll ds ≤ 1048576)
def OpenSpec.upto (s : _root_.Go.ChangeSpec) : _root_.Go.OpenSpec := { _root_.Go.OpenSpec.ofChange s with cond := some uptoSmall }

/-- 'laws.FnFolds', WHERE WHAT IT READS IS OF BULK AT MOST 1048576: true; the input reads as it did. -/
def fnFoldsUptoRow : OpenClaim := { program := "ytmenhnbaabijiaa", sum := "b450ed9084d6cfd2d612cd7823f03847b6705ea39dfb8ff438144d88cbd7eb35", func := "pub-dabber/laws.FnFolds", spec := "fnFolds", apart := false, narrowed := true }
def FnFoldsUptoSaid : Prop := fnFoldsUptoRow.holds Try.pinned (OpenSpec.upto fnFoldsSpec)

/-- 'laws.FnBytes', WHERE WHAT IT READS IS OF BULK AT MOST 1048576: true; the input reads as it did. -/
def fnBytesUptoRow : OpenClaim := { program := "ytmenhnbaabijiaa", sum := "b450ed9084d6cfd2d612cd7823f03847b6705ea39dfb8ff438144d88cbd7eb35", func := "pub-dabber/laws.FnBytes", spec := "fnBytes", apart := false, narrowed := true }
def FnBytesUptoSaid : Prop := fnBytesUptoRow.holds Try.pinned (OpenSpec.upto fnBytesSpec)

/-- 'laws.FnLinesAscend', WHERE WHAT IT READS IS OF BULK AT MOST 1048576: true; the input reads as it did. -/
def fnLinesAscendUptoRow : OpenClaim := { program := "ytmenhnbaabijiaa", sum := "b450ed9084d6cfd2d612cd7823f03847b6705ea39dfb8ff438144d88cbd7eb35", func := "pub-dabber/laws.FnLinesAscend", spec := "fnLinesAscend", apart := false, narrowed := true }
def FnLinesAscendUptoSaid : Prop := fnLinesAscendUptoRow.holds Try.pinned (OpenSpec.upto fnLinesAscendSpec)

end Rows
end Go.Proofs.Ytmenhnbaabijiaa

/-
  No cell of these rows narrows 'for every input' (looked for: loops, veiled, ifaces, maps, wideKeys, modest, calm, conditions, laid).
  DERIVED. THE GIVEN ROWS OF THIS SEAT. 5 by the template 'for every input the law returns true; each argument reads behind the call as it read before'; 0 by the template 'total and deterministic' (their statements: YtnddjppbecpmdaaTotals.lean).
  GIVEN WITH THE SEED: the statements are not yours to turn. If you find one false, say at which input.
  Laid BY PROGRAM, IN A SANDBOX (cutbox-rows.mjs): the forced cells as the released guide's own fill.sh prints them over the translation 1cf1a381a566f937… (all of the seat's roots in one cut). By AI agents, Wed Nov 11 2026. No macro, syntax, notation, axiom, sorry.
-/
import Derived.Test.YtnddjppbecpmdaaChecked
import GoSem.Claim
import GoSem.ClaimJoined
import GoSem.ClaimMapViews
import Derived.JoinedTies
import Derived.KernelRfl
namespace Go.Proofs.Ytnddjppbecpmdaa
/- THE CELL 'sum', in the pinned program and in every row, IS THE sha256 OF THE DUMP (.gsa) THAT YtnddjppbecpmdaaProg.lean LOADS. Nothing in Lean hashes anything: it is a label: what it is worth is what the hold of that sum in a sandbox is worth. -/
noncomputable def Try.pinned : Pinned := { name := "ytnddjppbecpmdaa", sum := "1cf1a381a566f937031a4aa465c9083f39e03ee39f98c0c8ae8b772239748e59", checked := Try.checked }
namespace Rows
def none {H : Type} : Left H := { results := [], args := [] }

/-- 'laws.FnDate': WHATEVER THE INPUT: true; the input reads as it did. -/
def fnDateSpec : ChangeSpec := { name := "fnDate", fn := fun _ => fun
  | [d1, d2, d3] => { results := [.lit (.bool true)], args := [d1, d2, d3] }
  | _ => none }
def fnDateRow : OpenClaim := { program := "ytnddjppbecpmdaa", sum := "1cf1a381a566f937031a4aa465c9083f39e03ee39f98c0c8ae8b772239748e59", func := "loop.example/pub-g03439/laws.FnDate", spec := "fnDate", apart := false }
def FnDateSaid : Prop := fnDateRow.holds Try.pinned (OpenSpec.ofChange fnDateSpec)

/-- ITS FALSE NEIGHBOUR: 'it returns false'. Refute it at one input. -/
def fnDateWrong : ChangeSpec := { name := "fnDate", fn := fun _ => fun
  | [d1, d2, d3] => { results := [.lit (.bool false)], args := [d1, d2, d3] }
  | _ => none }
def FnDateWrongFalsely : Prop := fnDateRow.holds Try.pinned (OpenSpec.ofChange fnDateWrong)

/-- 'laws.FnInt': WHATEVER THE INPUT: true; the input reads as it did. -/
def fnIntSpec : ChangeSpec := { name := "fnInt", fn := fun _ => fun
  | [d1, d2, d3] => { results := [.lit (.bool true)], args := [d1, d2, d3] }
  | _ => none }
def fnIntRow : OpenClaim := { program := "ytnddjppbecpmdaa", sum := "1cf1a381a566f937031a4aa465c9083f39e03ee39f98c0c8ae8b772239748e59", func := "loop.example/pub-g03439/laws.FnInt", spec := "fnInt", apart := false }
def FnIntSaid : Prop := fnIntRow.holds Try.pinned (OpenSpec.ofChange fnIntSpec)

/-- ITS FALSE NEIGHBOUR: 'it returns false'. Refute it at one input. -/
def fnIntWrong : ChangeSpec := { name := "fnInt", fn := fun _ => fun
  | [d1, d2, d3] => { results := [.lit (.bool false)], args := [d1, d2, d3] }
  | _ => none }
def FnIntWrongFalsely : Prop := fnIntRow.holds Try.pinned (OpenSpec.ofChange fnIntWrong)

/-- 'laws.FnClock': WHATEVER THE INPUT: true; the input reads as it did. -/
def fnClockSpec : ChangeSpec := { name := "fnClock", fn := fun _ => fun
  | [d1, d2, d3, d4, d5] => { results := [.lit (.bool true)], args := [d1, d2, d3, d4, d5] }
  | _ => none }
def fnClockRow : OpenClaim := { program := "ytnddjppbecpmdaa", sum := "1cf1a381a566f937031a4aa465c9083f39e03ee39f98c0c8ae8b772239748e59", func := "loop.example/pub-g03439/laws.FnClock", spec := "fnClock", apart := false }
def FnClockSaid : Prop := fnClockRow.holds Try.pinned (OpenSpec.ofChange fnClockSpec)

/-- ITS FALSE NEIGHBOUR: 'it returns false'. Refute it at one input. -/
def fnClockWrong : ChangeSpec := { name := "fnClock", fn := fun _ => fun
  | [d1, d2, d3, d4, d5] => { results := [.lit (.bool false)], args := [d1, d2, d3, d4, d5] }
  | _ => none }
def FnClockWrongFalsely : Prop := fnClockRow.holds Try.pinned (OpenSpec.ofChange fnClockWrong)

/-- 'laws.FnDateClock': WHATEVER THE INPUT: true; the input reads as it did. -/
def fnDateClockSpec : ChangeSpec := { name := "fnDateClock", fn := fun _ => fun
  | [d1, d2, d3, d4, d5, d6, d7] => { results := [.lit (.bool true)], args := [d1, d2, d3, d4, d5, d6, d7] }
  | _ => none }
def fnDateClockRow : OpenClaim := { program := "ytnddjppbecpmdaa", sum := "1cf1a381a566f937031a4aa465c9083f39e03ee39f98c0c8ae8b772239748e59", func := "loop.example/pub-g03439/laws.FnDateClock", spec := "fnDateClock", apart := false }
def FnDateClockSaid : Prop := fnDateClockRow.holds Try.pinned (OpenSpec.ofChange fnDateClockSpec)

/-- ITS FALSE NEIGHBOUR: 'it returns false'. Refute it at one input. -/
def fnDateClockWrong : ChangeSpec := { name := "fnDateClock", fn := fun _ => fun
  | [d1, d2, d3, d4, d5, d6, d7] => { results := [.lit (.bool false)], args := [d1, d2, d3, d4, d5, d6, d7] }
  | _ => none }
def FnDateClockWrongFalsely : Prop := fnDateClockRow.holds Try.pinned (OpenSpec.ofChange fnDateClockWrong)

/-- 'laws.FnInstant': WHATEVER THE INPUT: true; the input reads as it did. -/
def fnInstantSpec : ChangeSpec := { name := "fnInstant", fn := fun _ => fun
  | [d1, d2, d3, d4, d5, d6, d7, d8] => { results := [.lit (.bool true)], args := [d1, d2, d3, d4, d5, d6, d7, d8] }
  | _ => none }
def fnInstantRow : OpenClaim := { program := "ytnddjppbecpmdaa", sum := "1cf1a381a566f937031a4aa465c9083f39e03ee39f98c0c8ae8b772239748e59", func := "loop.example/pub-g03439/laws.FnInstant", spec := "fnInstant", apart := false }
def FnInstantSaid : Prop := fnInstantRow.holds Try.pinned (OpenSpec.ofChange fnInstantSpec)

/-- ITS FALSE NEIGHBOUR: 'it returns false'. Refute it at one input. -/
def fnInstantWrong : ChangeSpec := { name := "fnInstant", fn := fun _ => fun
  | [d1, d2, d3, d4, d5, d6, d7, d8] => { results := [.lit (.bool false)], args := [d1, d2, d3, d4, d5, d6, d7, d8] }
  | _ => none }
def FnInstantWrongFalsely : Prop := fnInstantRow.holds Try.pinned (OpenSpec.ofChange fnInstantWrong)

/- THE SECOND FORM. 'bulk': how many values and letters a reading holds, each counted each time it is reached (what is shared counts as often as it is met; a slice's spare places count too). A statement '..UptoSaid' is the law's where the arguments, and the package variables that the reading takes, are together of bulk at most 1048576: NARROWER than '..Said'. Prove '..Said' where nothing that the law and all that it calls make is longer than what came in: it says more and counts as full. Else prove '..UptoSaid'. A law counts once. -/
mutual
def uptoBulk {H : Type} : DataW H → Nat
  | .lit (.string bytes) => bytes.length + 1
  | .lit _ => 1
  | .nil => 1
  | .ptr d => uptoBulk d + 1
  | .slice elems spare => uptoBulkAll elems + uptoBulkAll spare + 1
  | .agg parts => uptoBulkAll parts + 1
  | .iface _ d => uptoBulk d + 1
  | .map entries => uptoBulkEntries entries + 1
  | .held _ => 1
def uptoBulkAll {H : Type} : List (DataW H) → Nat
  | [] => 0
  | d :: r => uptoBulk d + uptoBulkAll r
def uptoBulkEntries {H : Type} : List (Lit × DataW H) → Nat
  | [] => 0
  | x :: r => uptoBulkEntry x + uptoBulkEntries r
def uptoBulkEntry {H : Type} : Lit × DataW H → Nat
  | (.string bytes, d) => bytes.length + uptoBulk d + 1
  | (_, d) => uptoBulk d + 1
 end
def uptoSmall : (H : Type) → List (DataW H) → Bool := fun _ ds => decide (uptoBulkAll ds ≤ 1048576)
def OpenSpec.upto (s : _root_.Go.ChangeSpec) : _root_.Go.OpenSpec := { _root_.Go.OpenSpec.ofChange s with cond := some uptoSmall }

/-- 'laws.FnDate', WHERE WHAT IT READS IS OF BULK AT MOST 1048576: true; the input reads as it did. -/
def fnDateUptoRow : OpenClaim := { program := "ytnddjppbecpmdaa", sum := "1cf1a381a566f937031a4aa465c9083f39e03ee39f98c0c8ae8b772239748e59", func := "loop.example/pub-g03439/laws.FnDate", spec := "fnDate", apart := false, narrowed := true }
def FnDateUptoSaid : Prop := fnDateUptoRow.holds Try.pinned (OpenSpec.upto fnDateSpec)

/-- 'laws.FnInt', WHERE WHAT IT READS IS OF BULK AT MOST 1048576: true; the input reads as it did. -/
def fnIntUptoRow : OpenClaim := { program := "ytnddjppbecpmdaa", sum := "1cf1a381a566f937031a4aa465c9083f39e03ee39f98c0c8ae8b772239748e59", func := "loop.example/pub-g03439/laws.FnInt", spec := "fnInt", apart := false, narrowed := true }
def FnIntUptoSaid : Prop := fnIntUptoRow.holds Try.pinned (OpenSpec.upto fnIntSpec)

/-- 'laws.FnClock', WHERE WHAT IT READS IS OF BULK AT MOST 1048576: true; the input reads as it did. -/
def fnClockUptoRow : OpenClaim := { program := "ytnddjppbecpmdaa", sum := "1cf1a381a566f937031a4aa465c9083f39e03ee39f98c0c8ae8b772239748e59", func := "loop.example/pub-g03439/laws.FnClock", spec := "fnClock", apart := false, narrowed := true }
def FnClockUptoSaid : Prop := fnClockUptoRow.holds Try.pinned (OpenSpec.upto fnClockSpec)

/-- 'laws.FnDateClock', WHERE WHAT IT READS IS OF BULK AT MOST 1048576: true; the input reads as it did. -/
def fnDateClockUptoRow : OpenClaim := { program := "ytnddjppbecpmdaa", sum := "1cf1a381a566f937031a4aa465c9083f39e03ee39f98c0c8ae8b772239748e59", func := "loop.example/pub-g03439/laws.FnDateClock", spec := "fnDateClock", apart := false, narrowed := true }
def FnDateClockUptoSaid : Prop := fnDateClockUptoRow.holds Try.pinned (OpenSpec.upto fnDateClockSpec)

/-- 'laws.FnInstant', WHERE WHAT IT READS IS OF BULK AT MOST 1048576: true; the input reads as it did. -/
def fnInstantUptoRow : OpenClaim := { program := "ytnddjppbecpmdaa", sum := "1cf1a381a566f937031a4aa465c9083f39e03ee39f98c0c8ae8b772239748e59", func := "loop.example/pub-g03439/laws.FnInstant", spec := "fnInstant", apart := false, narrowed := true }
def FnInstantUptoSaid : Prop := fnInstantUptoRow.holds Try.pinned (OpenSpec.upto fnInstantSpec)

end Rows
end Go.Proofs.Ytnddjppbecpmdaa

/-
  No cell of these rows narrows 'for every input' (looked for: loops, veiled, ifaces, maps, wideKeys, modest, calm, conditions, laid).
  DERIVED. THE GIVEN ROWS OF THIS SEAT. 6 by the template 'for every input the law returns true; each argument reads behind the call as it read before'; 0 by the template 'total and deterministic' (their statements: YtnlkbbpmpgdmiaaTotals.lean).
  GIVEN WITH THE SEED: the statements are not yours to turn. If you find one false, say at which input.
  Laid BY PROGRAM, IN A SANDBOX (cutbox-rows.mjs): the forced cells as the released guide's own fill.sh prints them over the translation a7017b32bbbfdf40… (all of the seat's roots in one cut). By AI agents, Wed Nov 11 2026. No macro, syntax, notation, axiom, sorry.
-/
import Derived.Test.YtnlkbbpmpgdmiaaChecked
import GoSem.Claim
import GoSem.ClaimJoined
import GoSem.ClaimMapViews
import Derived.JoinedTies
import Derived.KernelRfl
namespace Go.Proofs.Ytnlkbbpmpgdmiaa
/- THE CELL 'sum', in the pinned program and in every row, IS THE sha256 OF THE DUMP (.gsa) THAT YtnlkbbpmpgdmiaaProg.lean LOADS. Nothing in Lean hashes anything: it is a label: what it is worth is what the hold of that sum in a sandbox is worth. -/
noncomputable def Try.pinned : Pinned := { name := "ytnlkbbpmpgdmiaa", sum := "a7017b32bbbfdf400e73cc68ca4063b3ddaf6d60d834aa2ea5719426edca2b13", checked := Try.checked }
namespace Rows
def none {H : Type} : Left H := { results := [], args := [] }

/-- 'laws.FnComments': WHATEVER THE INPUT: true; the input reads as it did. -/
def fnCommentsSpec : ChangeSpec := { name := "fnComments", fn := fun _ => fun
  | [d1, d2] => { results := [.lit (.bool true)], args := [d1, d2] }
  | _ => none }
def fnCommentsRow : OpenClaim := { program := "ytnlkbbpmpgdmiaa", sum := "a7017b32bbbfdf400e73cc68ca4063b3ddaf6d60d834aa2ea5719426edca2b13", func := "loop.example/pub-g03439/laws.FnComments", spec := "fnComments", unfollowed := true, recurses := true, apart := false }
def FnCommentsSaid : Prop := fnCommentsRow.holds Try.pinned (OpenSpec.ofChange fnCommentsSpec)

/-- ITS FALSE NEIGHBOUR: 'it returns false'. Refute it at one input. -/
def fnCommentsWrong : ChangeSpec := { name := "fnComments", fn := fun _ => fun
  | [d1, d2] => { results := [.lit (.bool false)], args := [d1, d2] }
  | _ => none }
def FnCommentsWrongFalsely : Prop := fnCommentsRow.holds Try.pinned (OpenSpec.ofChange fnCommentsWrong)

/-- 'laws.FnBehind': WHATEVER THE INPUT: true; the input reads as it did. -/
def fnBehindSpec : ChangeSpec := { name := "fnBehind", fn := fun _ => fun
  | [d1, d2, d3, d4] => { results := [.lit (.bool true)], args := [d1, d2, d3, d4] }
  | _ => none }
def fnBehindRow : OpenClaim := { program := "ytnlkbbpmpgdmiaa", sum := "a7017b32bbbfdf400e73cc68ca4063b3ddaf6d60d834aa2ea5719426edca2b13", func := "loop.example/pub-g03439/laws.FnBehind", spec := "fnBehind", unfollowed := true, recurses := true, apart := false }
def FnBehindSaid : Prop := fnBehindRow.holds Try.pinned (OpenSpec.ofChange fnBehindSpec)

/-- ITS FALSE NEIGHBOUR: 'it returns false'. Refute it at one input. -/
def fnBehindWrong : ChangeSpec := { name := "fnBehind", fn := fun _ => fun
  | [d1, d2, d3, d4] => { results := [.lit (.bool false)], args := [d1, d2, d3, d4] }
  | _ => none }
def FnBehindWrongFalsely : Prop := fnBehindRow.holds Try.pinned (OpenSpec.ofChange fnBehindWrong)

/-- 'laws.FnMade': WHATEVER THE INPUT: true; the input reads as it did. -/
def fnMadeSpec : ChangeSpec := { name := "fnMade", fn := fun _ => fun
  | [d1, d2] => { results := [.lit (.bool true)], args := [d1, d2] }
  | _ => none }
def fnMadeRow : OpenClaim := { program := "ytnlkbbpmpgdmiaa", sum := "a7017b32bbbfdf400e73cc68ca4063b3ddaf6d60d834aa2ea5719426edca2b13", func := "loop.example/pub-g03439/laws.FnMade", spec := "fnMade", unfollowed := true, recurses := true, apart := false }
def FnMadeSaid : Prop := fnMadeRow.holds Try.pinned (OpenSpec.ofChange fnMadeSpec)

/-- ITS FALSE NEIGHBOUR: 'it returns false'. Refute it at one input. -/
def fnMadeWrong : ChangeSpec := { name := "fnMade", fn := fun _ => fun
  | [d1, d2] => { results := [.lit (.bool false)], args := [d1, d2] }
  | _ => none }
def FnMadeWrongFalsely : Prop := fnMadeRow.holds Try.pinned (OpenSpec.ofChange fnMadeWrong)

/-- 'laws.FnRemarks': WHATEVER THE INPUT: true; the input reads as it did. -/
def fnRemarksSpec : ChangeSpec := { name := "fnRemarks", fn := fun _ => fun
  | [d1, d2, d3] => { results := [.lit (.bool true)], args := [d1, d2, d3] }
  | _ => none }
def fnRemarksRow : OpenClaim := { program := "ytnlkbbpmpgdmiaa", sum := "a7017b32bbbfdf400e73cc68ca4063b3ddaf6d60d834aa2ea5719426edca2b13", func := "loop.example/pub-g03439/laws.FnRemarks", spec := "fnRemarks", unfollowed := true, recurses := true, apart := false }
def FnRemarksSaid : Prop := fnRemarksRow.holds Try.pinned (OpenSpec.ofChange fnRemarksSpec)

/-- ITS FALSE NEIGHBOUR: 'it returns false'. Refute it at one input. -/
def fnRemarksWrong : ChangeSpec := { name := "fnRemarks", fn := fun _ => fun
  | [d1, d2, d3] => { results := [.lit (.bool false)], args := [d1, d2, d3] }
  | _ => none }
def FnRemarksWrongFalsely : Prop := fnRemarksRow.holds Try.pinned (OpenSpec.ofChange fnRemarksWrong)

/-- 'laws.FnStyles': WHATEVER THE INPUT: true; the input reads as it did. -/
def fnStylesSpec : ChangeSpec := { name := "fnStyles", fn := fun _ => fun
  | [d1, d2, d3] => { results := [.lit (.bool true)], args := [d1, d2, d3] }
  | _ => none }
def fnStylesRow : OpenClaim := { program := "ytnlkbbpmpgdmiaa", sum := "a7017b32bbbfdf400e73cc68ca4063b3ddaf6d60d834aa2ea5719426edca2b13", func := "loop.example/pub-g03439/laws.FnStyles", spec := "fnStyles", unfollowed := true, recurses := true, apart := false }
def FnStylesSaid : Prop := fnStylesRow.holds Try.pinned (OpenSpec.ofChange fnStylesSpec)

/-- ITS FALSE NEIGHBOUR: 'it returns false'. Refute it at one input. -/
def fnStylesWrong : ChangeSpec := { name := "fnStyles", fn := fun _ => fun
  | [d1, d2, d3] => { results := [.lit (.bool false)], args := [d1, d2, d3] }
  | _ => none }
def FnStylesWrongFalsely : Prop := fnStylesRow.holds Try.pinned (OpenSpec.ofChange fnStylesWrong)

/-- 'laws.FnWrong': WHATEVER THE INPUT: true; the input reads as it did. -/
def fnWrongSpec : ChangeSpec := { name := "fnWrong", fn := fun _ => fun
  | [d1, d2, d3] => { results := [.lit (.bool true)], args := [d1, d2, d3] }
  | _ => none }
def fnWrongRow : OpenClaim := { program := "ytnlkbbpmpgdmiaa", sum := "a7017b32bbbfdf400e73cc68ca4063b3ddaf6d60d834aa2ea5719426edca2b13", func := "loop.example/pub-g03439/laws.FnWrong", spec := "fnWrong", unfollowed := true, recurses := true, apart := false }
def FnWrongSaid : Prop := fnWrongRow.holds Try.pinned (OpenSpec.ofChange fnWrongSpec)

/-- ITS FALSE NEIGHBOUR: 'it returns false'. Refute it at one input. -/
def fnWrongWrong : ChangeSpec := { name := "fnWrong", fn := fun _ => fun
  | [d1, d2, d3] => { results := [.lit (.bool false)], args := [d1, d2, d3] }
  | _ => none }
def FnWrongWrongFalsely : Prop := fnWrongRow.holds Try.pinned (OpenSpec.ofChange fnWrongWrong)

/- THE SECOND FORM. 'bulk': how many values and letters a reading holds, each counted each time it is reached (what is shared counts as often as it is met; a slice's spare places count too). A statement '..UptoSaid' is the law's where the arguments, and the package variables that the reading takes, are together of bulk at most 1048576: NARROWER than '..Said'. Prove '..Said' where nothing that the law and all that it calls make is longer than what came in: it says more and counts as full. Else prove '..UptoSaid'. A law counts once. -/
mutual
def uptoBulk {H : Type} : DataW H → Nat
  | .lit (.string bytes) => bytes.length + 1
  | .lit _ => 1
  | .nil => 1
  | .ptr d => uptoBulk d + 1
  | .slice elems spare => uptoBulkAll elems + uptoBulkAll spare + 1
  | .agg parts => uptoBulkAll parts + 1
  | .iface _ d => uptoBulk d + 1
  | .map entries => uptoBulkEntries entries + 1
  | .held _ => 1
def uptoBulkAll {H : Type} : List (DataW H) → Nat
  | [] => 0
  | d :: r => uptoBulk d + uptoBulkAll r
def uptoBulkEntries {H : Type} : List (Lit × DataW H) → Nat
  | [] => 0
  | x :: r => uptoBulkEntry x + uptoBulkEntries r
def uptoBulkEntry {H : Type} : Lit × DataW H → Nat
  | (.string bytes, d) => bytes.length + uptoBulk d + 1
  | (_, d) => uptoBulk d + 1
 end
def uptoSmall : (H : Type) → List (DataW H) → Bool := fun _ ds => decide (uptoBulkAll ds ≤ 1048576)
def OpenSpec.upto (s : _root_.Go.ChangeSpec) : _root_.Go.OpenSpec := { _root_.Go.OpenSpec.ofChange s with cond := some uptoSmall }

/-- 'laws.FnComments', WHERE WHAT IT READS IS OF BULK AT MOST 1048576: true; the input reads as it did. -/
def fnCommentsUptoRow : OpenClaim := { program := "ytnlkbbpmpgdmiaa", sum := "a7017b32bbbfdf400e73cc68ca4063b3ddaf6d60d834aa2ea5719426edca2b13", func := "loop.example/pub-g03439/laws.FnComments", spec := "fnComments", unfollowed := true, recurses := true, apart := false, narrowed := true }
def FnCommentsUptoSaid : Prop := fnCommentsUptoRow.holds Try.pinned (OpenSpec.upto fnCommentsSpec)

/-- 'laws.FnBehind', WHERE WHAT IT READS IS OF BULK AT MOST 1048576: true; the input reads as it did. -/
def fnBehindUptoRow : OpenClaim := { program := "ytnlkbbpmpgdmiaa", sum := "a7017b32bbbfdf400e73cc68ca4063b3ddaf6d60d834aa2ea5719426edca2b13", func := "loop.example/pub-g03439/laws.FnBehind", spec := "fnBehind", unfollowed := true, recurses := true, apart := false, narrowed := true }
def FnBehindUptoSaid : Prop := fnBehindUptoRow.holds Try.pinned (OpenSpec.upto fnBehindSpec)

/-- 'laws.FnMade', WHERE WHAT IT READS IS OF BULK AT MOST 1048576: true; the input reads as it did. -/
def fnMadeUptoRow : OpenClaim := { program := "ytnlkbbpmpgdmiaa", sum := "a7017b32bbbfdf400e73cc68ca4063b3ddaf6d60d834aa2ea5719426edca2b13", func := "loop.example/pub-g03439/laws.FnMade", spec := "fnMade", unfollowed := true, recurses := true, apart := false, narrowed := true }
def FnMadeUptoSaid : Prop := fnMadeUptoRow.holds Try.pinned (OpenSpec.upto fnMadeSpec)

/-- 'laws.FnRemarks', WHERE WHAT IT READS IS OF BULK AT MOST 1048576: true; the input reads as it did. -/
def fnRemarksUptoRow : OpenClaim := { program := "ytnlkbbpmpgdmiaa", sum := "a7017b32bbbfdf400e73cc68ca4063b3ddaf6d60d834aa2ea5719426edca2b13", func := "loop.example/pub-g03439/laws.FnRemarks", spec := "fnRemarks", unfollowed := true, recurses := true, apart := false, narrowed := true }
def FnRemarksUptoSaid : Prop := fnRemarksUptoRow.holds Try.pinned (OpenSpec.upto fnRemarksSpec)

/-- 'laws.FnStyles', WHERE WHAT IT READS IS OF BULK AT MOST 1048576: true; the input reads as it did. -/
def fnStylesUptoRow : OpenClaim := { program := "ytnlkbbpmpgdmiaa", sum := "a7017b32bbbfdf400e73cc68ca4063b3ddaf6d60d834aa2ea5719426edca2b13", func := "loop.example/pub-g03439/laws.FnStyles", spec := "fnStyles", unfollowed := true, recurses := true, apart := false, narrowed := true }
def FnStylesUptoSaid : Prop := fnStylesUptoRow.holds Try.pinned (OpenSpec.upto fnStylesSpec)

/-- 'laws.FnWrong', WHERE WHAT IT READS IS OF BULK AT MOST 1048576: true; the input reads as it did. -/
def fnWrongUptoRow : OpenClaim := { program := "ytnlkbbpmpgdmiaa", sum := "a7017b32bbbfdf400e73cc68ca4063b3ddaf6d60d834aa2ea5719426edca2b13", func := "loop.example/pub-g03439/laws.FnWrong", spec := "fnWrong", unfollowed := true, recurses := true, apart := false, narrowed := true }
def FnWrongUptoSaid : Prop := fnWrongUptoRow.holds Try.pinned (OpenSpec.upto fnWrongSpec)

end Rows
end Go.Proofs.Ytnlkbbpmpgdmiaa

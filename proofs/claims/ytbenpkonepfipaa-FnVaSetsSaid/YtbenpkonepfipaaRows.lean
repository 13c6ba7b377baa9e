/-
  No cell of these rows narrows 'for every input' (looked for: loops, veiled, ifaces, maps, wideKeys, modest, calm, conditions, laid).
  DERIVED. THE GIVEN ROWS OF THIS SEAT. 5 by the template 'for every input the law returns true; each argument reads behind the call as it read before'; 0 by the template 'total and deterministic' (their statements: YtbenpkonepfipaaTotals.lean).
  GIVEN WITH THE SEED: the statements are not yours to turn. If you find one false, say at which input.
  Laid BY PROGRAM, IN A SANDBOX (cutbox-rows.mjs): the forced cells as the released guide's own fill.sh prints them over the translation 47ee8fd0575adaed… (all of the seat's roots in one cut). By AI agents, Wed Nov 11 2026. No macro, syntax, notation, axiom, sorry.
-/
import Derived.Test.YtbenpkonepfipaaChecked
import GoSem.Claim
import GoSem.ClaimJoined
import GoSem.ClaimMapViews
import Derived.JoinedTies
import Derived.KernelRfl
namespace Go.Proofs.Ytbenpkonepfipaa
/- THE CELL 'sum', in the pinned program and in every row, IS THE sha256 OF THE DUMP (.gsa) THAT YtbenpkonepfipaaProg.lean LOADS. Nothing in Lean hashes anything: it is a label: what it is worth is what the hold of that sum in a sandbox is worth. -/
noncomputable def Try.pinned : Pinned := { name := "ytbenpkonepfipaa", sum := "47ee8fd0575adaedd0b78dadb5a1a5db110b7c1960f02a38e4151e843e82d36f", checked := Try.checked }
namespace Rows
def none {H : Type} : Left H := { results := [], args := [] }

/-- 'laws.FnVaHashOrder': WHATEVER THE INPUT: true; the input reads as it did. -/
def fnVaHashOrderSpec : ChangeSpec := { name := "fnVaHashOrder", fn := fun _ => fun
  | [d1, d2] => { results := [.lit (.bool true)], args := [d1, d2] }
  | _ => none }
def fnVaHashOrderRow : OpenClaim := { program := "ytbenpkonepfipaa", sum := "47ee8fd0575adaedd0b78dadb5a1a5db110b7c1960f02a38e4151e843e82d36f", func := "pub-inosculation/laws.FnVaHashOrder", spec := "fnVaHashOrder", inPlace := ["internal/bytealg.Compare"], plainKeys := false, apart := false }
def FnVaHashOrderSaid : Prop := fnVaHashOrderRow.holds Try.pinned (OpenSpec.ofChange fnVaHashOrderSpec)

/-- ITS FALSE NEIGHBOUR: 'it returns false'. Refute it at one input. -/
def fnVaHashOrderWrong : ChangeSpec := { name := "fnVaHashOrder", fn := fun _ => fun
  | [d1, d2] => { results := [.lit (.bool false)], args := [d1, d2] }
  | _ => none }
def FnVaHashOrderWrongFalsely : Prop := fnVaHashOrderRow.holds Try.pinned (OpenSpec.ofChange fnVaHashOrderWrong)

/-- 'laws.FnVaHashRead': WHATEVER THE INPUT: true; the input reads as it did. -/
def fnVaHashReadSpec : ChangeSpec := { name := "fnVaHashRead", fn := fun _ => fun
  | [d1, d2] => { results := [.lit (.bool true)], args := [d1, d2] }
  | _ => none }
def fnVaHashReadRow : OpenClaim := { program := "ytbenpkonepfipaa", sum := "47ee8fd0575adaedd0b78dadb5a1a5db110b7c1960f02a38e4151e843e82d36f", func := "pub-inosculation/laws.FnVaHashRead", spec := "fnVaHashRead", unfollowed := true, recurses := true, plainKeys := false, apart := false }
def FnVaHashReadSaid : Prop := fnVaHashReadRow.holds Try.pinned (OpenSpec.ofChange fnVaHashReadSpec)

/-- ITS FALSE NEIGHBOUR: 'it returns false'. Refute it at one input. -/
def fnVaHashReadWrong : ChangeSpec := { name := "fnVaHashRead", fn := fun _ => fun
  | [d1, d2] => { results := [.lit (.bool false)], args := [d1, d2] }
  | _ => none }
def FnVaHashReadWrongFalsely : Prop := fnVaHashReadRow.holds Try.pinned (OpenSpec.ofChange fnVaHashReadWrong)

/-- 'laws.FnVaSlices': WHATEVER THE INPUT: true; the input reads as it did. -/
def fnVaSlicesSpec : ChangeSpec := { name := "fnVaSlices", fn := fun _ => fun
  | [d1, d2, d3] => { results := [.lit (.bool true)], args := [d1, d2, d3] }
  | _ => none }
def fnVaSlicesRow : OpenClaim := { program := "ytbenpkonepfipaa", sum := "47ee8fd0575adaedd0b78dadb5a1a5db110b7c1960f02a38e4151e843e82d36f", func := "pub-inosculation/laws.FnVaSlices", spec := "fnVaSlices", unfollowed := true, recurses := true, named := ["encoding/binary.LittleEndian"], plainKeys := false, apart := false }
def FnVaSlicesSaid : Prop := fnVaSlicesRow.holds Try.pinned (OpenSpec.ofChange fnVaSlicesSpec)

/-- ITS FALSE NEIGHBOUR: 'it returns false'. Refute it at one input. -/
def fnVaSlicesWrong : ChangeSpec := { name := "fnVaSlices", fn := fun _ => fun
  | [d1, d2, d3] => { results := [.lit (.bool false)], args := [d1, d2, d3] }
  | _ => none }
def FnVaSlicesWrongFalsely : Prop := fnVaSlicesRow.holds Try.pinned (OpenSpec.ofChange fnVaSlicesWrong)

/-- 'laws.FnVaCounts': WHATEVER THE INPUT: true; the input reads as it did. -/
def fnVaCountsSpec : ChangeSpec := { name := "fnVaCounts", fn := fun _ => fun
  | [d] => { results := [.lit (.bool true)], args := [d] }
  | _ => none }
def fnVaCountsRow : OpenClaim := { program := "ytbenpkonepfipaa", sum := "47ee8fd0575adaedd0b78dadb5a1a5db110b7c1960f02a38e4151e843e82d36f", func := "pub-inosculation/laws.FnVaCounts", spec := "fnVaCounts", unfollowed := true, recurses := true, plainKeys := false, apart := false }
def FnVaCountsSaid : Prop := fnVaCountsRow.holds Try.pinned (OpenSpec.ofChange fnVaCountsSpec)

/-- ITS FALSE NEIGHBOUR: 'it returns false'. Refute it at one input. -/
def fnVaCountsWrong : ChangeSpec := { name := "fnVaCounts", fn := fun _ => fun
  | [d] => { results := [.lit (.bool false)], args := [d] }
  | _ => none }
def FnVaCountsWrongFalsely : Prop := fnVaCountsRow.holds Try.pinned (OpenSpec.ofChange fnVaCountsWrong)

/-- 'laws.FnVaSets': WHATEVER THE INPUT: true; the input reads as it did. -/
def fnVaSetsSpec : ChangeSpec := { name := "fnVaSets", fn := fun _ => fun
  | [d] => { results := [.lit (.bool true)], args := [d] }
  | _ => none }
def fnVaSetsRow : OpenClaim := { program := "ytbenpkonepfipaa", sum := "47ee8fd0575adaedd0b78dadb5a1a5db110b7c1960f02a38e4151e843e82d36f", func := "pub-inosculation/laws.FnVaSets", spec := "fnVaSets", unfollowed := true, recurses := true, plainKeys := false, apart := false }
def FnVaSetsSaid : Prop := fnVaSetsRow.holds Try.pinned (OpenSpec.ofChange fnVaSetsSpec)

/-- ITS FALSE NEIGHBOUR: 'it returns false'. Refute it at one input. -/
def fnVaSetsWrong : ChangeSpec := { name := "fnVaSets", fn := fun _ => fun
  | [d] => { results := [.lit (.bool false)], args := [d] }
  | _ => none }
def FnVaSetsWrongFalsely : Prop := fnVaSetsRow.holds Try.pinned (OpenSpec.ofChange fnVaSetsWrong)

/- THE SECOND FORM. 'bulk': how many values and letters a reading holds, each counted each time it is reached (what is shared counts as often as it is met; a slice's spare places count too). A statement '..UptoSaid' is the law's where the arguments, and the package variables that the reading takes, are together of bulk at most 1048576: NARROWER than '..Said'. Prove '..Said' where nothing that the law and all that it calls make is longer than what came in: it says more and counts as full. Else prove '..UptoSaid'. A law counts once. -/
mutual
def uptoBulk {H : Type} : DataW H → Nat
  | .lit (.string bytes) => bytes.length + 1
  | .lit _ => 1
  | .nil => 1
  | .ptr d => uptoBulk d + 1
  | .slice elems spare => uptoBulkAll elems + uptoBulkAll spare + 1
  | .agg parts => uptoBulkAll parts + 1
  | .iface _ d => uptoBulk d + 1
  | .map entries => uptoBulkEntries entries + 1
  | .held _ => 1
def uptoBulkAll {H : Type} : List (DataW H) → Nat
  | [] => 0
  | d :: r => uptoBulk d + uptoBulkAll r
def uptoBulkEntries {H : Type} : List (Lit × DataW H) → Nat
  | [] => 0
  | x :: r => uptoBulkEntry x + uptoBulkEntries r
def uptoBulkEntry {H : Type} : Lit × DataW H → Nat
  | (.string bytes, d) => bytes.length + uptoBulk d + 1
  | (_, d) => uptoBulk d + 1
 end
def uptoSmall : (H : Type) → List (DataW H) → Bool := fun _ ds => decide (uptoBulkAll ds ≤ 1048576)
def OpenSpec.upto (s : _root_.Go.ChangeSpec) : _root_.Go.OpenSpec := { _root_.Go.OpenSpec.ofChange s with cond := some uptoSmall }

/-- 'laws.FnVaHashOrder', WHERE WHAT IT READS IS OF BULK AT MOST 1048576: true; the input reads as it did. -/
def fnVaHashOrderUptoRow : OpenClaim := { program := "ytbenpkonepfipaa", sum := "47ee8fd0575adaedd0b78dadb5a1a5db110b7c1960f02a38e4151e843e82d36f", func := "pub-inosculation/laws.FnVaHashOrder", spec := "fnVaHashOrder", inPlace := ["internal/bytealg.Compare"], plainKeys := false, apart := false, narrowed := true }
def FnVaHashOrderUptoSaid : Prop := fnVaHashOrderUptoRow.holds Try.pinned (OpenSpec.upto fnVaHashOrderSpec)

/-- 'laws.FnVaHashRead', WHERE WHAT IT READS IS OF BULK AT MOST 1048576: true; the input reads as it did. -/
def fnVaHashReadUptoRow : OpenClaim := { program := "ytbenpkonepfipaa", sum := "47ee8fd0575adaedd0b78dadb5a1a5db110b7c1960f02a38e4151e843e82d36f", func := "pub-inosculation/laws.FnVaHashRead", spec := "fnVaHashRead", unfollowed := true, recurses := true, plainKeys := false, apart := false, narrowed := true }
def FnVaHashReadUptoSaid : Prop := fnVaHashReadUptoRow.holds Try.pinned (OpenSpec.upto fnVaHashReadSpec)

/-- 'laws.FnVaSlices', WHERE WHAT IT READS IS OF BULK AT MOST 1048576: true; the input reads as it did. -/
def fnVaSlicesUptoRow : OpenClaim := { program := "ytbenpkonepfipaa", sum := "47ee8fd0575adaedd0b78dadb5a1a5db110b7c1960f02a38e4151e843e82d36f", func := "pub-inosculation/laws.FnVaSlices", spec := "fnVaSlices", unfollowed := true, recurses := true, named := ["encoding/binary.LittleEndian"], plainKeys := false, apart := false, narrowed := true }
def FnVaSlicesUptoSaid : Prop := fnVaSlicesUptoRow.holds Try.pinned (OpenSpec.upto fnVaSlicesSpec)

/-- 'laws.FnVaCounts', WHERE WHAT IT READS IS OF BULK AT MOST 1048576: true; the input reads as it did. -/
def fnVaCountsUptoRow : OpenClaim := { program := "ytbenpkonepfipaa", sum := "47ee8fd0575adaedd0b78dadb5a1a5db110b7c1960f02a38e4151e843e82d36f", func := "pub-inosculation/laws.FnVaCounts", spec := "fnVaCounts", unfollowed := true, recurses := true, plainKeys := false, apart := false, narrowed := true }
def FnVaCountsUptoSaid : Prop := fnVaCountsUptoRow.holds Try.pinned (OpenSpec.upto fnVaCountsSpec)

/-- 'laws.FnVaSets', WHERE WHAT IT READS IS OF BULK AT MOST 1048576: true; the input reads as it did. -/
def fnVaSetsUptoRow : OpenClaim := { program := "ytbenpkonepfipaa", sum := "47ee8fd0575adaedd0b78dadb5a1a5db110b7c1960f02a38e4151e843e82d36f", func := "pub-inosculation/laws.FnVaSets", spec := "fnVaSets", unfollowed := true, recurses := true, plainKeys := false, apart := false, narrowed := true }
def FnVaSetsUptoSaid : Prop := fnVaSetsUptoRow.holds Try.pinned (OpenSpec.upto fnVaSetsSpec)

end Rows
end Go.Proofs.Ytbenpkonepfipaa

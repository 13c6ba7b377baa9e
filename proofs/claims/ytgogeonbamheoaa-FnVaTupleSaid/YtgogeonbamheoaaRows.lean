/-
  No cell of these rows narrows 'for every input' (looked for: loops, veiled, ifaces, maps, wideKeys, modest, calm, conditions, laid).
  DERIVED. THE GIVEN ROWS OF THIS SEAT. 2 by the template 'for every input the law returns true; each argument reads behind the call as it read before'; 0 by the template 'total and deterministic' (their statements: YtgogeonbamheoaaTotals.lean).
  GIVEN WITH THE SEED: the statements are not yours to turn. If you find one false, say at which input.
  Laid BY PROGRAM, IN A SANDBOX (cutbox-rows.mjs): the forced cells as the released guide's own fill.sh prints them over the translation 692c63edff8269e6… (all of the seat's roots in one cut). By AI agents, Wed Nov 11 2026. No macro, syntax, notation, axiom, sorry.
-/
import Derived.Test.YtgogeonbamheoaaChecked
import GoSem.Claim
import GoSem.ClaimJoined
import GoSem.ClaimMapViews
import Derived.JoinedTies
import Derived.KernelRfl
namespace Go.Proofs.Ytgogeonbamheoaa
/- THE CELL 'sum', in the pinned program and in every row, IS THE sha256 OF THE DUMP (.gsa) THAT YtgogeonbamheoaaProg.lean LOADS. Nothing in Lean hashes anything: it is a label: what it is worth is what the hold of that sum in a sandbox is worth. -/
noncomputable def Try.pinned : Pinned := { name := "ytgogeonbamheoaa", sum := "692c63edff8269e69613c4009b97df7d09b819bce1cb021684649ae25c9d2b2b", checked := Try.checked }
namespace Rows
def none {H : Type} : Left H := { results := [], args := [] }

/-- 'laws.FnVaTriple': WHATEVER THE INPUT: true; the input reads as it did. -/
def fnVaTripleSpec : ChangeSpec := { name := "fnVaTriple", fn := fun _ => fun
  | [d1, d2, d3] => { results := [.lit (.bool true)], args := [d1, d2, d3] }
  | _ => none }
def fnVaTripleRow : OpenClaim := { program := "ytgogeonbamheoaa", sum := "692c63edff8269e69613c4009b97df7d09b819bce1cb021684649ae25c9d2b2b", func := "pub-inosculation/laws.FnVaTriple", spec := "fnVaTriple", unfollowed := true, recurses := true, named := ["encoding/binary.LittleEndian"], apart := false }
def FnVaTripleSaid : Prop := fnVaTripleRow.holds Try.pinned (OpenSpec.ofChange fnVaTripleSpec)

/-- ITS FALSE NEIGHBOUR: 'it returns false'. Refute it at one input. -/
def fnVaTripleWrong : ChangeSpec := { name := "fnVaTriple", fn := fun _ => fun
  | [d1, d2, d3] => { results := [.lit (.bool false)], args := [d1, d2, d3] }
  | _ => none }
def FnVaTripleWrongFalsely : Prop := fnVaTripleRow.holds Try.pinned (OpenSpec.ofChange fnVaTripleWrong)

/-- 'laws.FnVaTuple': WHATEVER THE INPUT: true; the input reads as it did. -/
def fnVaTupleSpec : ChangeSpec := { name := "fnVaTuple", fn := fun _ => fun
  | [d] => { results := [.lit (.bool true)], args := [d] }
  | _ => none }
def fnVaTupleRow : OpenClaim := { program := "ytgogeonbamheoaa", sum := "692c63edff8269e69613c4009b97df7d09b819bce1cb021684649ae25c9d2b2b", func := "pub-inosculation/laws.FnVaTuple", spec := "fnVaTuple", unfollowed := true, recurses := true, named := ["encoding/binary.LittleEndian"], apart := false }
def FnVaTupleSaid : Prop := fnVaTupleRow.holds Try.pinned (OpenSpec.ofChange fnVaTupleSpec)

/-- ITS FALSE NEIGHBOUR: 'it returns false'. Refute it at one input. -/
def fnVaTupleWrong : ChangeSpec := { name := "fnVaTuple", fn := fun _ => fun
  | [d] => { results := [.lit (.bool false)], args := [d] }
  | _ => none }
def FnVaTupleWrongFalsely : Prop := fnVaTupleRow.holds Try.pinned (OpenSpec.ofChange fnVaTupleWrong)

/- THE SECOND FORM. 'bulk': how many values and letters a reading holds, each counted each time it is reached (what is shared counts as often as it is met; a slice's spare places count too). A statement '..UptoSaid' is the law's where the arguments, and the package variables that the reading takes, are together of bulk at most 1048576: NARROWER than '..Said'. Prove '..Said' where nothing that the law and all that it calls make is longer than what came in: it says more and counts as full. Else prove '..UptoSaid'. A law counts once. -/
mutual
def uptoBulk {H : Type} : DataW H → Nat
  | .lit (.string bytes) => bytes.length + 1
  | .lit _ => 1
  | .nil => 1
  | .ptr d => uptoBulk d + 1
  | .slice elems spare => uptoBulkAll elems + uptoBulkAll spare + 1
  | .agg parts => uptoBulkAll parts + 1
  | .iface _ d => uptoBulk d + 1
  | .map entries => uptoBulkEntries entries + 1
  | .held _ => 1
def uptoBulkAll {H : Type} : List (DataW H) → Nat
  | [] => 0
  | d :: r => uptoBulk d + uptoBulkAll r
def uptoBulkEntries {H : Type} : List (Lit × DataW H) → Nat
  | [] => 0
  | x :: r => uptoBulkEntry x + uptoBulkEntries r
def uptoBulkEntry {H : Type} : Lit × DataW H → Nat
  | (.string bytes, d) => bytes.length + uptoBulk d + 1
  | (_, d) => uptoBulk d + 1
 end
def uptoSmall : (H : Type) → List (DataW H) → Bool := fun _ ds => decide (uptoBulkAll ds ≤ 1048576)
def OpenSpec.upto (s : _root_.Go.ChangeSpec) : _root_.Go.OpenSpec := { _root_.Go.OpenSpec.ofChange s with cond := some uptoSmall }

/-- 'laws.FnVaTriple', WHERE WHAT IT READS IS OF BULK AT MOST 1048576: true; the input reads as it did. -/
def fnVaTripleUptoRow : OpenClaim := { program := "ytgogeonbamheoaa", sum := "692c63edff8269e69613c4009b97df7d09b819bce1cb021684649ae25c9d2b2b", func := "pub-inosculation/laws.FnVaTriple", spec := "fnVaTriple", unfollowed := true, recurses := true, named := ["encoding/binary.LittleEndian"], apart := false, narrowed := true }
def FnVaTripleUptoSaid : Prop := fnVaTripleUptoRow.holds Try.pinned (OpenSpec.upto fnVaTripleSpec)

/-- 'laws.FnVaTuple', WHERE WHAT IT READS IS OF BULK AT MOST 1048576: true; the input reads as it did. -/
def fnVaTupleUptoRow : OpenClaim := { program := "ytgogeonbamheoaa", sum := "692c63edff8269e69613c4009b97df7d09b819bce1cb021684649ae25c9d2b2b", func := "pub-inosculation/laws.FnVaTuple", spec := "fnVaTuple", unfollowed := true, recurses := true, named := ["encoding/binary.LittleEndian"], apart := false, narrowed := true }
def FnVaTupleUptoSaid : Prop := fnVaTupleUptoRow.holds Try.pinned (OpenSpec.upto fnVaTupleSpec)

end Rows
end Go.Proofs.Ytgogeonbamheoaa

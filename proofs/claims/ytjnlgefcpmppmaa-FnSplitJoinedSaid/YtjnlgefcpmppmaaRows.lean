/-
  No cell of these rows narrows 'for every input' (looked for: loops, veiled, ifaces, maps, wideKeys, modest, calm, conditions, laid).
  DERIVED. THE GIVEN ROWS OF THIS SEAT. 2 by the template 'for every input the law returns true; each argument reads behind the call as it read before'; 0 by the template 'total and deterministic' (their statements: YtjnlgefcpmppmaaTotals.lean).
  GIVEN WITH THE SEED: the statements are not yours to turn. If you find one false, say at which input.
  Laid BY PROGRAM, IN A SANDBOX (cutbox-rows.mjs): the forced cells as the released guide's own fill.sh prints them over the translation a484b05e8b46ea4f… (all of the seat's roots in one cut). By AI agents, Wed Nov 11 2026. No macro, syntax, notation, axiom, sorry.
-/
import Derived.Test.YtjnlgefcpmppmaaChecked
import GoSem.Claim
import GoSem.ClaimJoined
import GoSem.ClaimMapViews
import Derived.JoinedTies
import Derived.KernelRfl
namespace Go.Proofs.Ytjnlgefcpmppmaa
/- THE CELL 'sum', in the pinned program and in every row, IS THE sha256 OF THE DUMP (.gsa) THAT YtjnlgefcpmppmaaProg.lean LOADS. Nothing in Lean hashes anything: it is a label: what it is worth is what the hold of that sum in a sandbox is worth. -/
noncomputable def Try.pinned : Pinned := { name := "ytjnlgefcpmppmaa", sum := "a484b05e8b46ea4f16be4a596191e6e7bacf0bb11bb33315b43fd2b46961058e", checked := Try.checked }
namespace Rows
def none {H : Type} : Left H := { results := [], args := [] }

/-- 'laws.FnJoinedExact': WHATEVER THE INPUT: true; the input reads as it did. -/
def fnJoinedExactSpec : ChangeSpec := { name := "fnJoinedExact", fn := fun _ => fun
  | [d1, d2] => { results := [.lit (.bool true)], args := [d1, d2] }
  | _ => none }
def fnJoinedExactRow : OpenClaim := { program := "ytjnlgefcpmppmaa", sum := "a484b05e8b46ea4f16be4a596191e6e7bacf0bb11bb33315b43fd2b46961058e", func := "given.example/pub-rondel/laws.FnJoinedExact", spec := "fnJoinedExact", unfollowed := true, recurses := true, plainKeys := false, apart := false }
def FnJoinedExactSaid : Prop := fnJoinedExactRow.holds Try.pinned (OpenSpec.ofChange fnJoinedExactSpec)

/-- ITS FALSE NEIGHBOUR: 'it returns false'. Refute it at one input. -/
def fnJoinedExactWrong : ChangeSpec := { name := "fnJoinedExact", fn := fun _ => fun
  | [d1, d2] => { results := [.lit (.bool false)], args := [d1, d2] }
  | _ => none }
def FnJoinedExactWrongFalsely : Prop := fnJoinedExactRow.holds Try.pinned (OpenSpec.ofChange fnJoinedExactWrong)

/-- 'laws.FnSplitJoined': WHATEVER THE INPUT: true; the input reads as it did. -/
def fnSplitJoinedSpec : ChangeSpec := { name := "fnSplitJoined", fn := fun _ => fun
  | [d1, d2, d3] => { results := [.lit (.bool true)], args := [d1, d2, d3] }
  | _ => none }
def fnSplitJoinedRow : OpenClaim := { program := "ytjnlgefcpmppmaa", sum := "a484b05e8b46ea4f16be4a596191e6e7bacf0bb11bb33315b43fd2b46961058e", func := "given.example/pub-rondel/laws.FnSplitJoined", spec := "fnSplitJoined", unfollowed := true, recurses := true, plainKeys := false, apart := false }
def FnSplitJoinedSaid : Prop := fnSplitJoinedRow.holds Try.pinned (OpenSpec.ofChange fnSplitJoinedSpec)

/-- ITS FALSE NEIGHBOUR: 'it returns false'. Refute it at one input. -/
def fnSplitJoinedWrong : ChangeSpec := { name := "fnSplitJoined", fn := fun _ => fun
  | [d1, d2, d3] => { results := [.lit (.bool false)], args := [d1, d2, d3] }
  | _ => none }
def FnSplitJoinedWrongFalsely : Prop := fnSplitJoinedRow.holds Try.pinned (OpenSpec.ofChange fnSplitJoinedWrong)

/- THE SECOND FORM. 'bulk': how many values and letters a reading holds, each counted each time it is reached (what is shared counts as often as it is met; a slice's spare places count too). A statement '..UptoSaid' is the law's where the arguments, and the package variables that the reading takes, are together of bulk at most 1048576: NARROWER than '..Said'. Prove '..Said' where nothing that the law and all that it calls make is longer than what came in: it says more and counts as full. Else prove '..UptoSaid'. A law counts once. -/
mutual
def uptoBulk {H : Type} : DataW H → Nat
  | .lit (.string bytes) => bytes.length + 1
  | .lit _ => 1
  | .nil => 1
  | .ptr d => uptoBulk d + 1
  | .slice elems spare => uptoBulkAll elems + uptoBulkAll spare + 1
  | .agg parts => uptoBulkAll parts + 1
  | .iface _ d => uptoBulk d + 1
  | .map entries => uptoBulkEntries entries + 1
  | .held _ => 1
def uptoBulkAll {H : Type} : List (DataW H) → Nat
  | [] => 0
  | d :: r => uptoBulk d + uptoBulkAll r
def uptoBulkEntries {H : Type} : List (Lit × DataW H) → Nat
  | [] => 0
  | x :: r => uptoBulkEntry x + uptoBulkEntries r
def uptoBulkEntry {H : Type} : Lit × DataW H → Nat
  | (.string bytes, d) => bytes.length + uptoBulk d + 1
  | (_, d) => uptoBulk d + 1
 end
def uptoSmall : (H : Type) → List (DataW H) → Bool := fun _ ds => decide (uptoBulkAll ds ≤ 1048576)
def OpenSpec.upto (s : _root_.Go.ChangeSpec) : _root_.Go.OpenSpec := { _root_.Go.OpenSpec.ofChange s with cond := some uptoSmall }

/-- 'laws.FnJoinedExact', WHERE WHAT IT READS IS OF BULK AT MOST 1048576: true; the input reads as it did. -/
def fnJoinedExactUptoRow : OpenClaim := { program := "ytjnlgefcpmppmaa", sum := "a484b05e8b46ea4f16be4a596191e6e7bacf0bb11bb33315b43fd2b46961058e", func := "given.example/pub-rondel/laws.FnJoinedExact", spec := "fnJoinedExact", unfollowed := true, recurses := true, plainKeys := false, apart := false, narrowed := true }
def FnJoinedExactUptoSaid : Prop := fnJoinedExactUptoRow.holds Try.pinned (OpenSpec.upto fnJoinedExactSpec)

/-- 'laws.FnSplitJoined', WHERE WHAT IT READS IS OF BULK AT MOST 1048576: true; the input reads as it did. -/
def fnSplitJoinedUptoRow : OpenClaim := { program := "ytjnlgefcpmppmaa", sum := "a484b05e8b46ea4f16be4a596191e6e7bacf0bb11bb33315b43fd2b46961058e", func := "given.example/pub-rondel/laws.FnSplitJoined", spec := "fnSplitJoined", unfollowed := true, recurses := true, plainKeys := false, apart := false, narrowed := true }
def FnSplitJoinedUptoSaid : Prop := fnSplitJoinedUptoRow.holds Try.pinned (OpenSpec.upto fnSplitJoinedSpec)

end Rows
end Go.Proofs.Ytjnlgefcpmppmaa

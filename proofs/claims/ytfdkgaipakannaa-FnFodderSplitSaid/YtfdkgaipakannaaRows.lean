/-
  No cell of these rows narrows 'for every input' (looked for: loops, veiled, ifaces, maps, wideKeys, modest, calm, conditions, laid).
  DERIVED. THE GIVEN ROWS OF THIS SEAT. 3 by the template 'for every input the law returns true; each argument reads behind the call as it read before'; 0 by the template 'total and deterministic' (their statements: YtfdkgaipakannaaTotals.lean).
  GIVEN WITH THE SEED: the statements are not yours to turn. If you find one false, say at which input.
  Laid BY PROGRAM, IN A SANDBOX (cutbox-rows.mjs): the forced cells as the released guide's own fill.sh prints them over the translation 31696f0df00bd5a6… (all of the seat's roots in one cut). By AI agents, Wed Nov 11 2026. No macro, syntax, notation, axiom, sorry.
-/
import Derived.Test.YtfdkgaipakannaaChecked
import GoSem.Claim
import GoSem.ClaimJoined
import GoSem.ClaimMapViews
import Derived.JoinedTies
import Derived.KernelRfl
namespace Go.Proofs.Ytfdkgaipakannaa
/- THE CELL 'sum', in the pinned program and in every row, IS THE sha256 OF THE DUMP (.gsa) THAT YtfdkgaipakannaaProg.lean LOADS. Nothing in Lean hashes anything: it is a label: what it is worth is what the hold of that sum in a sandbox is worth. -/
noncomputable def Try.pinned : Pinned := { name := "ytfdkgaipakannaa", sum := "31696f0df00bd5a652b9dcfeaec10bf16bd488422983c6cc3ca28c90b1b21ca2", checked := Try.checked }
namespace Rows
def none {H : Type} : Left H := { results := [], args := [] }

/-- 'laws.FnBefore': WHATEVER THE INPUT: true; the input reads as it did. -/
def fnBeforeSpec : ChangeSpec := { name := "fnBefore", fn := fun _ => fun
  | [d1, d2] => { results := [.lit (.bool true)], args := [d1, d2] }
  | _ => none }
def fnBeforeRow : OpenClaim := { program := "ytfdkgaipakannaa", sum := "31696f0df00bd5a652b9dcfeaec10bf16bd488422983c6cc3ca28c90b1b21ca2", func := "given.example/pub-rondel/laws.FnBefore", spec := "fnBefore", apart := false }
def FnBeforeSaid : Prop := fnBeforeRow.holds Try.pinned (OpenSpec.ofChange fnBeforeSpec)

/-- ITS FALSE NEIGHBOUR: 'it returns false'. Refute it at one input. -/
def fnBeforeWrong : ChangeSpec := { name := "fnBefore", fn := fun _ => fun
  | [d1, d2] => { results := [.lit (.bool false)], args := [d1, d2] }
  | _ => none }
def FnBeforeWrongFalsely : Prop := fnBeforeRow.holds Try.pinned (OpenSpec.ofChange fnBeforeWrong)

/-- 'laws.FnSpaceStripped': WHATEVER THE INPUT: true; the input reads as it did. -/
def fnSpaceStrippedSpec : ChangeSpec := { name := "fnSpaceStripped", fn := fun _ => fun
  | [d1, d2] => { results := [.lit (.bool true)], args := [d1, d2] }
  | _ => none }
def fnSpaceStrippedRow : OpenClaim := { program := "ytfdkgaipakannaa", sum := "31696f0df00bd5a652b9dcfeaec10bf16bd488422983c6cc3ca28c90b1b21ca2", func := "given.example/pub-rondel/laws.FnSpaceStripped", spec := "fnSpaceStripped", apart := false }
def FnSpaceStrippedSaid : Prop := fnSpaceStrippedRow.holds Try.pinned (OpenSpec.ofChange fnSpaceStrippedSpec)

/-- ITS FALSE NEIGHBOUR: 'it returns false'. Refute it at one input. -/
def fnSpaceStrippedWrong : ChangeSpec := { name := "fnSpaceStripped", fn := fun _ => fun
  | [d1, d2] => { results := [.lit (.bool false)], args := [d1, d2] }
  | _ => none }
def FnSpaceStrippedWrongFalsely : Prop := fnSpaceStrippedRow.holds Try.pinned (OpenSpec.ofChange fnSpaceStrippedWrong)

/-- 'laws.FnFodderSplit': WHATEVER THE INPUT: true; the input reads as it did. -/
def fnFodderSplitSpec : ChangeSpec := { name := "fnFodderSplit", fn := fun _ => fun
  | [d] => { results := [.lit (.bool true)], args := [d] }
  | _ => none }
def fnFodderSplitRow : OpenClaim := { program := "ytfdkgaipakannaa", sum := "31696f0df00bd5a652b9dcfeaec10bf16bd488422983c6cc3ca28c90b1b21ca2", func := "given.example/pub-rondel/laws.FnFodderSplit", spec := "fnFodderSplit", apart := false }
def FnFodderSplitSaid : Prop := fnFodderSplitRow.holds Try.pinned (OpenSpec.ofChange fnFodderSplitSpec)

/-- ITS FALSE NEIGHBOUR: 'it returns false'. Refute it at one input. -/
def fnFodderSplitWrong : ChangeSpec := { name := "fnFodderSplit", fn := fun _ => fun
  | [d] => { results := [.lit (.bool false)], args := [d] }
  | _ => none }
def FnFodderSplitWrongFalsely : Prop := fnFodderSplitRow.holds Try.pinned (OpenSpec.ofChange fnFodderSplitWrong)

/- THE SECOND FORM. 'bulk': how many values and letters a reading holds, each counted each time it is reached (what is shared counts as often as it is met; a slice's spare places count too). A statement '..UptoSaid' is the law's where the arguments, and the package variables that the reading takes, are together of bulk at most 1048576: NARROWER than '..Said'. Prove '..Said' where nothing that the law and all that it calls make is longer than what came in: it says more and counts as full. Else prove '..UptoSaid'. A law counts once. -/
mutual
def uptoBulk {H : Type} : DataW H → Nat
  | .lit (.string bytes) => bytes.length + 1
  | .lit _ => 1
  | .nil => 1
  | .ptr d => uptoBulk d + 1
  | .slice elems spare => uptoBulkAll elems + uptoBulkAll spare + 1
  | .agg parts => uptoBulkAll parts + 1
  | .iface _ d => uptoBulk d + 1
  | .map entries => uptoBulkEntries entries + 1
  | .held _ => 1
def uptoBulkAll {H : Type} : List (DataW H) → Nat
  | [] => 0
  | d :: r => uptoBulk d + uptoBulkAll r
def uptoBulkEntries {H : Type} : List (Lit × DataW H) → Nat
  | [] => 0
  | x :: r => uptoBulkEntry x + uptoBulkEntries r
def uptoBulkEntry {H : Type} : Lit × DataW H → Nat
  | (.string bytes, d) => bytes.length + uptoBulk d + 1
  | (_, d) => uptoBulk d + 1
 end
def uptoSmall : (H : Type) → List (DataW H) → Bool := fun _ ds => decide (uptoBulkAll ds ≤ 1048576)
def OpenSpec.upto (s : _root_.Go.ChangeSpec) : _root_.Go.OpenSpec := { _root_.Go.OpenSpec.ofChange s with cond := some uptoSmall }

/-- 'laws.FnBefore', WHERE WHAT IT READS IS OF BULK AT MOST 1048576: true; the input reads as it did. -/
def fnBeforeUptoRow : OpenClaim := { program := "ytfdkgaipakannaa", sum := "31696f0df00bd5a652b9dcfeaec10bf16bd488422983c6cc3ca28c90b1b21ca2", func := "given.example/pub-rondel/laws.FnBefore", spec := "fnBefore", apart := false, narrowed := true }
def FnBeforeUptoSaid : Prop := fnBeforeUptoRow.holds Try.pinned (OpenSpec.upto fnBeforeSpec)

/-- 'laws.FnSpaceStripped', WHERE WHAT IT READS IS OF BULK AT MOST 1048576: true; the input reads as it did. -/
def fnSpaceStrippedUptoRow : OpenClaim := { program := "ytfdkgaipakannaa", sum := "31696f0df00bd5a652b9dcfeaec10bf16bd488422983c6cc3ca28c90b1b21ca2", func := "given.example/pub-rondel/laws.FnSpaceStripped", spec := "fnSpaceStripped", apart := false, narrowed := true }
def FnSpaceStrippedUptoSaid : Prop := fnSpaceStrippedUptoRow.holds Try.pinned (OpenSpec.upto fnSpaceStrippedSpec)

/-- 'laws.FnFodderSplit', WHERE WHAT IT READS IS OF BULK AT MOST 1048576: true; the input reads as it did. -/
def fnFodderSplitUptoRow : OpenClaim := { program := "ytfdkgaipakannaa", sum := "31696f0df00bd5a652b9dcfeaec10bf16bd488422983c6cc3ca28c90b1b21ca2", func := "given.example/pub-rondel/laws.FnFodderSplit", spec := "fnFodderSplit", apart := false, narrowed := true }
def FnFodderSplitUptoSaid : Prop := fnFodderSplitUptoRow.holds Try.pinned (OpenSpec.upto fnFodderSplitSpec)

end Rows
end Go.Proofs.Ytfdkgaipakannaa

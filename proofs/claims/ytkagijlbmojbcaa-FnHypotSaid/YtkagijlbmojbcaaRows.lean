/-
  No cell of these rows narrows 'for every input' (looked for: loops, veiled, ifaces, maps, wideKeys, modest, calm, conditions, laid).
  DERIVED. THE GIVEN ROWS OF THIS SEAT. 5 by the template 'for every input the law returns true; each argument reads behind the call as it read before'; 0 by the template 'total and deterministic' (their statements: YtkagijlbmojbcaaTotals.lean).
  GIVEN WITH THE SEED: the statements are not yours to turn. If you find one false, say at which input.
  Laid BY PROGRAM, IN A SANDBOX (cutbox-rows.mjs): the forced cells as the released guide's own fill.sh prints them over the translation 770a9d4a8dcb12ed… (all of the seat's roots in one cut). By AI agents, Wed Nov 11 2026. No macro, syntax, notation, axiom, sorry.
-/
import Derived.Test.YtkagijlbmojbcaaChecked
import GoSem.Claim
import GoSem.ClaimJoined
import GoSem.ClaimMapViews
import Derived.JoinedTies
import Derived.KernelRfl
namespace Go.Proofs.Ytkagijlbmojbcaa
/- THE CELL 'sum', in the pinned program and in every row, IS THE sha256 OF THE DUMP (.gsa) THAT YtkagijlbmojbcaaProg.lean LOADS. Nothing in Lean hashes anything: it is a label: what it is worth is what the hold of that sum in a sandbox is worth. -/
noncomputable def Try.pinned : Pinned := { name := "ytkagijlbmojbcaa", sum := "770a9d4a8dcb12edd9c234c542f7742c7bd97f2766ab172c086325c5371288ef", checked := Try.checked }
namespace Rows
def none {H : Type} : Left H := { results := [], args := [] }

/-- 'laws.FnNumCompare': WHATEVER THE INPUT: true; the input reads as it did. -/
def fnNumCompareSpec : ChangeSpec := { name := "fnNumCompare", fn := fun _ => fun
  | [d1, d2] => { results := [.lit (.bool true)], args := [d1, d2] }
  | _ => none }
def fnNumCompareRow : OpenClaim := { program := "ytkagijlbmojbcaa", sum := "770a9d4a8dcb12edd9c234c542f7742c7bd97f2766ab172c086325c5371288ef", func := "given.example/pub-rondel/laws.FnNumCompare", spec := "fnNumCompare", inPlace := ["math.Float64bits", "math.Float64frombits"], plainKeys := false, apart := false }
def FnNumCompareSaid : Prop := fnNumCompareRow.holds Try.pinned (OpenSpec.ofChange fnNumCompareSpec)

/-- ITS FALSE NEIGHBOUR: 'it returns false'. Refute it at one input. -/
def fnNumCompareWrong : ChangeSpec := { name := "fnNumCompare", fn := fun _ => fun
  | [d1, d2] => { results := [.lit (.bool false)], args := [d1, d2] }
  | _ => none }
def FnNumCompareWrongFalsely : Prop := fnNumCompareRow.holds Try.pinned (OpenSpec.ofChange fnNumCompareWrong)

/-- 'laws.FnNumBitNot': WHATEVER THE INPUT: true; the input reads as it did. -/
def fnNumBitNotSpec : ChangeSpec := { name := "fnNumBitNot", fn := fun _ => fun
  | [d] => { results := [.lit (.bool true)], args := [d] }
  | _ => none }
def fnNumBitNotRow : OpenClaim := { program := "ytkagijlbmojbcaa", sum := "770a9d4a8dcb12edd9c234c542f7742c7bd97f2766ab172c086325c5371288ef", func := "given.example/pub-rondel/laws.FnNumBitNot", spec := "fnNumBitNot", inPlace := ["math.archTrunc", "math.Float64bits", "math.Float64frombits"], plainKeys := false, apart := false }
def FnNumBitNotSaid : Prop := fnNumBitNotRow.holds Try.pinned (OpenSpec.ofChange fnNumBitNotSpec)

/-- ITS FALSE NEIGHBOUR: 'it returns false'. Refute it at one input. -/
def fnNumBitNotWrong : ChangeSpec := { name := "fnNumBitNot", fn := fun _ => fun
  | [d] => { results := [.lit (.bool false)], args := [d] }
  | _ => none }
def FnNumBitNotWrongFalsely : Prop := fnNumBitNotRow.holds Try.pinned (OpenSpec.ofChange fnNumBitNotWrong)

/-- 'laws.FnNumTimes': WHATEVER THE INPUT: true; the input reads as it did. -/
def fnNumTimesSpec : ChangeSpec := { name := "fnNumTimes", fn := fun _ => fun
  | [d1, d2] => { results := [.lit (.bool true)], args := [d1, d2] }
  | _ => none }
def fnNumTimesRow : OpenClaim := { program := "ytkagijlbmojbcaa", sum := "770a9d4a8dcb12edd9c234c542f7742c7bd97f2766ab172c086325c5371288ef", func := "given.example/pub-rondel/laws.FnNumTimes", spec := "fnNumTimes", inPlace := ["math.Float64bits", "math.Float64frombits"], plainKeys := false, apart := false }
def FnNumTimesSaid : Prop := fnNumTimesRow.holds Try.pinned (OpenSpec.ofChange fnNumTimesSpec)

/-- ITS FALSE NEIGHBOUR: 'it returns false'. Refute it at one input. -/
def fnNumTimesWrong : ChangeSpec := { name := "fnNumTimes", fn := fun _ => fun
  | [d1, d2] => { results := [.lit (.bool false)], args := [d1, d2] }
  | _ => none }
def FnNumTimesWrongFalsely : Prop := fnNumTimesRow.holds Try.pinned (OpenSpec.ofChange fnNumTimesWrong)

/-- 'laws.FnNumTurned': WHATEVER THE INPUT: true; the input reads as it did. -/
def fnNumTurnedSpec : ChangeSpec := { name := "fnNumTurned", fn := fun _ => fun
  | [d] => { results := [.lit (.bool true)], args := [d] }
  | _ => none }
def fnNumTurnedRow : OpenClaim := { program := "ytkagijlbmojbcaa", sum := "770a9d4a8dcb12edd9c234c542f7742c7bd97f2766ab172c086325c5371288ef", func := "given.example/pub-rondel/laws.FnNumTurned", spec := "fnNumTurned", inPlace := ["math.Float64bits", "math.Float64frombits", "math.archCeil", "math.archFloor", "math.archTrunc"], unfollowed := true, recurses := true, plainKeys := false, apart := false }
def FnNumTurnedSaid : Prop := fnNumTurnedRow.holds Try.pinned (OpenSpec.ofChange fnNumTurnedSpec)

/-- ITS FALSE NEIGHBOUR: 'it returns false'. Refute it at one input. -/
def fnNumTurnedWrong : ChangeSpec := { name := "fnNumTurned", fn := fun _ => fun
  | [d] => { results := [.lit (.bool false)], args := [d] }
  | _ => none }
def FnNumTurnedWrongFalsely : Prop := fnNumTurnedRow.holds Try.pinned (OpenSpec.ofChange fnNumTurnedWrong)

/-- 'laws.FnHypot': WHATEVER THE INPUT: true; the input reads as it did. -/
def fnHypotSpec : ChangeSpec := { name := "fnHypot", fn := fun _ => fun
  | [d1, d2] => { results := [.lit (.bool true)], args := [d1, d2] }
  | _ => none }
def fnHypotRow : OpenClaim := { program := "ytkagijlbmojbcaa", sum := "770a9d4a8dcb12edd9c234c542f7742c7bd97f2766ab172c086325c5371288ef", func := "given.example/pub-rondel/laws.FnHypot", spec := "fnHypot", inPlace := ["math.Float64bits", "math.Float64frombits", "math.archHypot", "math.sqrt"], unfollowed := true, recurses := true, plainKeys := false, apart := false }
def FnHypotSaid : Prop := fnHypotRow.holds Try.pinned (OpenSpec.ofChange fnHypotSpec)

/-- ITS FALSE NEIGHBOUR: 'it returns false'. Refute it at one input. -/
def fnHypotWrong : ChangeSpec := { name := "fnHypot", fn := fun _ => fun
  | [d1, d2] => { results := [.lit (.bool false)], args := [d1, d2] }
  | _ => none }
def FnHypotWrongFalsely : Prop := fnHypotRow.holds Try.pinned (OpenSpec.ofChange fnHypotWrong)

/- THE SECOND FORM. 'bulk': how many values and letters a reading holds, each counted each time it is reached (what is shared counts as often as it is met; a slice's spare places count too). A statement '..UptoSaid' is the law's where the arguments, and the package variables that the reading takes, are together of bulk at most 1048576: NARROWER than '..Said'. Prove '..Said' where nothing that the law and all that it calls make is longer than what came in: it says more and counts as full. Else prove '..UptoSaid'. A law counts once. -/
mutual
def uptoBulk {H : Type} : DataW H → Nat
  | .lit (.string bytes) => bytes.length + 1
  | .lit _ => 1
  | .nil => 1
  | .ptr d => uptoBulk d + 1
  | .slice elems spare => uptoBulkAll elems + uptoBulkAll spare + 1
  | .agg parts => uptoBulkAll parts + 1
  | .iface _ d => uptoBulk d + 1
  | .map entries => uptoBulkEntries entries + 1
  | .held _ => 1
def uptoBulkAll {H : Type} : List (DataW H) → Nat
  | [] => 0
  | d :: r => uptoBulk d + uptoBulkAll r
def uptoBulkEntries {H : Type} : List (Lit × DataW H) → Nat
  | [] => 0
  | x :: r => uptoBulkEntry x + uptoBulkEntries r
def uptoBulkEntry {H : Type} : Lit × DataW H → Nat
  | (.string bytes, d) => bytes.length + uptoBulk d + 1
  | (_, d) => uptoBulk d + 1
 end
def uptoSmall : (H : Type) → List (DataW H) → Bool := fun _ ds => decide (uptoBulkAll ds ≤ 1048576)
def OpenSpec.upto (s : _root_.Go.ChangeSpec) : _root_.Go.OpenSpec := { _root_.Go.OpenSpec.ofChange s with cond := some uptoSmall }

/-- 'laws.FnNumCompare', WHERE WHAT IT READS IS OF BULK AT MOST 1048576: true; the input reads as it did. -/
def fnNumCompareUptoRow : OpenClaim := { program := "ytkagijlbmojbcaa", sum := "770a9d4a8dcb12edd9c234c542f7742c7bd97f2766ab172c086325c5371288ef", func := "given.example/pub-rondel/laws.FnNumCompare", spec := "fnNumCompare", inPlace := ["math.Float64bits", "math.Float64frombits"], plainKeys := false, apart := false, narrowed := true }
def FnNumCompareUptoSaid : Prop := fnNumCompareUptoRow.holds Try.pinned (OpenSpec.upto fnNumCompareSpec)

/-- 'laws.FnNumBitNot', WHERE WHAT IT READS IS OF BULK AT MOST 1048576: true; the input reads as it did. -/
def fnNumBitNotUptoRow : OpenClaim := { program := "ytkagijlbmojbcaa", sum := "770a9d4a8dcb12edd9c234c542f7742c7bd97f2766ab172c086325c5371288ef", func := "given.example/pub-rondel/laws.FnNumBitNot", spec := "fnNumBitNot", inPlace := ["math.archTrunc", "math.Float64bits", "math.Float64frombits"], plainKeys := false, apart := false, narrowed := true }
def FnNumBitNotUptoSaid : Prop := fnNumBitNotUptoRow.holds Try.pinned (OpenSpec.upto fnNumBitNotSpec)

/-- 'laws.FnNumTimes', WHERE WHAT IT READS IS OF BULK AT MOST 1048576: true; the input reads as it did. -/
def fnNumTimesUptoRow : OpenClaim := { program := "ytkagijlbmojbcaa", sum := "770a9d4a8dcb12edd9c234c542f7742c7bd97f2766ab172c086325c5371288ef", func := "given.example/pub-rondel/laws.FnNumTimes", spec := "fnNumTimes", inPlace := ["math.Float64bits", "math.Float64frombits"], plainKeys := false, apart := false, narrowed := true }
def FnNumTimesUptoSaid : Prop := fnNumTimesUptoRow.holds Try.pinned (OpenSpec.upto fnNumTimesSpec)

/-- 'laws.FnNumTurned', WHERE WHAT IT READS IS OF BULK AT MOST 1048576: true; the input reads as it did. -/
def fnNumTurnedUptoRow : OpenClaim := { program := "ytkagijlbmojbcaa", sum := "770a9d4a8dcb12edd9c234c542f7742c7bd97f2766ab172c086325c5371288ef", func := "given.example/pub-rondel/laws.FnNumTurned", spec := "fnNumTurned", inPlace := ["math.Float64bits", "math.Float64frombits", "math.archCeil", "math.archFloor", "math.archTrunc"], unfollowed := true, recurses := true, plainKeys := false, apart := false, narrowed := true }
def FnNumTurnedUptoSaid : Prop := fnNumTurnedUptoRow.holds Try.pinned (OpenSpec.upto fnNumTurnedSpec)

/-- 'laws.FnHypot', WHERE WHAT IT READS IS OF BULK AT MOST 1048576: true; the input reads as it did. -/
def fnHypotUptoRow : OpenClaim := { program := "ytkagijlbmojbcaa", sum := "770a9d4a8dcb12edd9c234c542f7742c7bd97f2766ab172c086325c5371288ef", func := "given.example/pub-rondel/laws.FnHypot", spec := "fnHypot", inPlace := ["math.Float64bits", "math.Float64frombits", "math.archHypot", "math.sqrt"], unfollowed := true, recurses := true, plainKeys := false, apart := false, narrowed := true }
def FnHypotUptoSaid : Prop := fnHypotUptoRow.holds Try.pinned (OpenSpec.upto fnHypotSpec)

end Rows
end Go.Proofs.Ytkagijlbmojbcaa

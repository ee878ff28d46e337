/-
  No cell of these rows narrows 'for every input' (looked for: loops, veiled, ifaces, maps, wideKeys, modest, calm, conditions, laid).
  DERIVED. THE GIVEN ROWS OF THIS SEAT. 8 by the template 'for every input the law returns true; each argument reads behind the call as it read before'; 0 by the template 'total and deterministic' (their statements: YtpaociigfbibbaaTotals.lean).
  GIVEN WITH THE SEED: the statements are not yours to turn. If you find one false, say at which input.
  Laid BY PROGRAM, IN A SANDBOX (cutbox-rows.mjs): the forced cells as the released guide's own fill.sh prints them over the translation 082a5942ea8559da… (all of the seat's roots in one cut). By AI agents, Wed Nov 11 2026. No macro, syntax, notation, axiom, sorry.
-/
import Derived.Test.YtpaociigfbibbaaChecked
import GoSem.Claim
import GoSem.ClaimJoined
import GoSem.ClaimMapViews
import Derived.JoinedTies
import Derived.KernelRfl
namespace Go.Proofs.Ytpaociigfbibbaa
/- THE CELL 'sum', in the pinned program and in every row, IS THE sha256 OF THE DUMP (.gsa) THAT YtpaociigfbibbaaProg.lean LOADS. Nothing in Lean hashes anything: it is a label: what it is worth is what the hold of that sum in a sandbox is worth. -/
noncomputable def Try.pinned : Pinned := { name := "ytpaociigfbibbaa", sum := "082a5942ea8559da6a5ffb52be0208b613178142e4897132b32775cb0c242d54", checked := Try.checked }
namespace Rows
def none {H : Type} : Left H := { results := [], args := [] }

/-- 'laws.FnEqualSamples': WHATEVER THE INPUT: true; the input reads as it did. -/
def fnEqualSamplesSpec : ChangeSpec := { name := "fnEqualSamples", fn := fun _ => fun
  | [d1, d2, d3] => { results := [.lit (.bool true)], args := [d1, d2, d3] }
  | _ => none }
def fnEqualSamplesRow : OpenClaim := { program := "ytpaociigfbibbaa", sum := "082a5942ea8559da6a5ffb52be0208b613178142e4897132b32775cb0c242d54", func := "renowindow/laws.FnEqualSamples", spec := "fnEqualSamples", unfollowed := true, recurses := true, apart := false }
def FnEqualSamplesSaid : Prop := fnEqualSamplesRow.holds Try.pinned (OpenSpec.ofChange fnEqualSamplesSpec)

/-- ITS FALSE NEIGHBOUR: 'it returns false'. Refute it at one input. -/
def fnEqualSamplesWrong : ChangeSpec := { name := "fnEqualSamples", fn := fun _ => fun
  | [d1, d2, d3] => { results := [.lit (.bool false)], args := [d1, d2, d3] }
  | _ => none }
def FnEqualSamplesWrongFalsely : Prop := fnEqualSamplesRow.holds Try.pinned (OpenSpec.ofChange fnEqualSamplesWrong)

/-- 'laws.FnFirst': WHATEVER THE INPUT: true; the input reads as it did. -/
def fnFirstSpec : ChangeSpec := { name := "fnFirst", fn := fun _ => fun
  | [d] => { results := [.lit (.bool true)], args := [d] }
  | _ => none }
def fnFirstRow : OpenClaim := { program := "ytpaociigfbibbaa", sum := "082a5942ea8559da6a5ffb52be0208b613178142e4897132b32775cb0c242d54", func := "renowindow/laws.FnFirst", spec := "fnFirst", unfollowed := true, recurses := true, apart := false }
def FnFirstSaid : Prop := fnFirstRow.holds Try.pinned (OpenSpec.ofChange fnFirstSpec)

/-- ITS FALSE NEIGHBOUR: 'it returns false'. Refute it at one input. -/
def fnFirstWrong : ChangeSpec := { name := "fnFirst", fn := fun _ => fun
  | [d] => { results := [.lit (.bool false)], args := [d] }
  | _ => none }
def FnFirstWrongFalsely : Prop := fnFirstRow.holds Try.pinned (OpenSpec.ofChange fnFirstWrong)

/-- 'laws.FnFlight': WHATEVER THE INPUT: true; the input reads as it did. -/
def fnFlightSpec : ChangeSpec := { name := "fnFlight", fn := fun _ => fun
  | [d1, d2] => { results := [.lit (.bool true)], args := [d1, d2] }
  | _ => none }
def fnFlightRow : OpenClaim := { program := "ytpaociigfbibbaa", sum := "082a5942ea8559da6a5ffb52be0208b613178142e4897132b32775cb0c242d54", func := "renowindow/laws.FnFlight", spec := "fnFlight", unfollowed := true, recurses := true, apart := false }
def FnFlightSaid : Prop := fnFlightRow.holds Try.pinned (OpenSpec.ofChange fnFlightSpec)

/-- ITS FALSE NEIGHBOUR: 'it returns false'. Refute it at one input. -/
def fnFlightWrong : ChangeSpec := { name := "fnFlight", fn := fun _ => fun
  | [d1, d2] => { results := [.lit (.bool false)], args := [d1, d2] }
  | _ => none }
def FnFlightWrongFalsely : Prop := fnFlightRow.holds Try.pinned (OpenSpec.ofChange fnFlightWrong)

/-- 'laws.FnGrowth': WHATEVER THE INPUT: true; the input reads as it did. -/
def fnGrowthSpec : ChangeSpec := { name := "fnGrowth", fn := fun _ => fun
  | [d1, d2] => { results := [.lit (.bool true)], args := [d1, d2] }
  | _ => none }
def fnGrowthRow : OpenClaim := { program := "ytpaociigfbibbaa", sum := "082a5942ea8559da6a5ffb52be0208b613178142e4897132b32775cb0c242d54", func := "renowindow/laws.FnGrowth", spec := "fnGrowth", unfollowed := true, recurses := true, apart := false }
def FnGrowthSaid : Prop := fnGrowthRow.holds Try.pinned (OpenSpec.ofChange fnGrowthSpec)

/-- ITS FALSE NEIGHBOUR: 'it returns false'. Refute it at one input. -/
def fnGrowthWrong : ChangeSpec := { name := "fnGrowth", fn := fun _ => fun
  | [d1, d2] => { results := [.lit (.bool false)], args := [d1, d2] }
  | _ => none }
def FnGrowthWrongFalsely : Prop := fnGrowthRow.holds Try.pinned (OpenSpec.ofChange fnGrowthWrong)

/-- 'laws.FnPersistentCongestion': WHATEVER THE INPUT: true; the input reads as it did. -/
def fnPersistentCongestionSpec : ChangeSpec := { name := "fnPersistentCongestion", fn := fun _ => fun
  | [d1, d2, d3, d4] => { results := [.lit (.bool true)], args := [d1, d2, d3, d4] }
  | _ => none }
def fnPersistentCongestionRow : OpenClaim := { program := "ytpaociigfbibbaa", sum := "082a5942ea8559da6a5ffb52be0208b613178142e4897132b32775cb0c242d54", func := "renowindow/laws.FnPersistentCongestion", spec := "fnPersistentCongestion", unfollowed := true, recurses := true, apart := false }
def FnPersistentCongestionSaid : Prop := fnPersistentCongestionRow.holds Try.pinned (OpenSpec.ofChange fnPersistentCongestionSpec)

/-- ITS FALSE NEIGHBOUR: 'it returns false'. Refute it at one input. -/
def fnPersistentCongestionWrong : ChangeSpec := { name := "fnPersistentCongestion", fn := fun _ => fun
  | [d1, d2, d3, d4] => { results := [.lit (.bool false)], args := [d1, d2, d3, d4] }
  | _ => none }
def FnPersistentCongestionWrongFalsely : Prop := fnPersistentCongestionRow.holds Try.pinned (OpenSpec.ofChange fnPersistentCongestionWrong)

/-- 'laws.FnSample': WHATEVER THE INPUT: true; the input reads as it did. -/
def fnSampleSpec : ChangeSpec := { name := "fnSample", fn := fun _ => fun
  | [d1, d2] => { results := [.lit (.bool true)], args := [d1, d2] }
  | _ => none }
def fnSampleRow : OpenClaim := { program := "ytpaociigfbibbaa", sum := "082a5942ea8559da6a5ffb52be0208b613178142e4897132b32775cb0c242d54", func := "renowindow/laws.FnSample", spec := "fnSample", unfollowed := true, recurses := true, apart := false }
def FnSampleSaid : Prop := fnSampleRow.holds Try.pinned (OpenSpec.ofChange fnSampleSpec)

/-- ITS FALSE NEIGHBOUR: 'it returns false'. Refute it at one input. -/
def fnSampleWrong : ChangeSpec := { name := "fnSample", fn := fun _ => fun
  | [d1, d2] => { results := [.lit (.bool false)], args := [d1, d2] }
  | _ => none }
def FnSampleWrongFalsely : Prop := fnSampleRow.holds Try.pinned (OpenSpec.ofChange fnSampleWrong)

/-- 'laws.FnState': WHATEVER THE INPUT: true; the input reads as it did. -/
def fnStateSpec : ChangeSpec := { name := "fnState", fn := fun _ => fun
  | [d1, d2] => { results := [.lit (.bool true)], args := [d1, d2] }
  | _ => none }
def fnStateRow : OpenClaim := { program := "ytpaociigfbibbaa", sum := "082a5942ea8559da6a5ffb52be0208b613178142e4897132b32775cb0c242d54", func := "renowindow/laws.FnState", spec := "fnState", unfollowed := true, recurses := true, apart := false }
def FnStateSaid : Prop := fnStateRow.holds Try.pinned (OpenSpec.ofChange fnStateSpec)

/-- ITS FALSE NEIGHBOUR: 'it returns false'. Refute it at one input. -/
def fnStateWrong : ChangeSpec := { name := "fnState", fn := fun _ => fun
  | [d1, d2] => { results := [.lit (.bool false)], args := [d1, d2] }
  | _ => none }
def FnStateWrongFalsely : Prop := fnStateRow.holds Try.pinned (OpenSpec.ofChange fnStateWrong)

/-- 'laws.FnWindowIsKept': WHATEVER THE INPUT: true; the input reads as it did. -/
def fnWindowIsKeptSpec : ChangeSpec := { name := "fnWindowIsKept", fn := fun _ => fun
  | [d1, d2] => { results := [.lit (.bool true)], args := [d1, d2] }
  | _ => none }
def fnWindowIsKeptRow : OpenClaim := { program := "ytpaociigfbibbaa", sum := "082a5942ea8559da6a5ffb52be0208b613178142e4897132b32775cb0c242d54", func := "renowindow/laws.FnWindowIsKept", spec := "fnWindowIsKept", unfollowed := true, recurses := true, apart := false }
def FnWindowIsKeptSaid : Prop := fnWindowIsKeptRow.holds Try.pinned (OpenSpec.ofChange fnWindowIsKeptSpec)

/-- ITS FALSE NEIGHBOUR: 'it returns false'. Refute it at one input. -/
def fnWindowIsKeptWrong : ChangeSpec := { name := "fnWindowIsKept", fn := fun _ => fun
  | [d1, d2] => { results := [.lit (.bool false)], args := [d1, d2] }
  | _ => none }
def FnWindowIsKeptWrongFalsely : Prop := fnWindowIsKeptRow.holds Try.pinned (OpenSpec.ofChange fnWindowIsKeptWrong)

/- THE SECOND FORM. 'bulk': how many values and letters a reading holds, each counted each time it is reached (what is shared counts as often as it is met; a slice's spare places count too). A statement '..UptoSaid' is the law's where the arguments, and the package variables that the reading takes, are together of bulk at most 1048576: NARROWER than '..Said'. Prove '..Said' where nothing that the law and all that it calls make is longer than what came in: it says more and counts as full. Else prove '..UptoSaid'. A law counts once. -/
mutual
def uptoBulk {H : Type} : DataW H → Nat
  | .lit (.string bytes) => bytes.length + 1
  | .lit _ => 1
  | .nil => 1
  | .ptr d => uptoBulk d + 1
  | .slice elems spare => uptoBulkAll elems + uptoBulkAll spare + 1
  | .agg parts => uptoBulkAll parts + 1
  | .iface _ d => uptoBulk d + 1
  | .map entries => uptoBulkEntries entries + 1
  | .held _ => 1
def uptoBulkAll {H : Type} : List (DataW H) → Nat
  | [] => 0
  | d :: r => uptoBulk d + uptoBulkAll r
def uptoBulkEntries {H : Type} : List (Lit × DataW H) → Nat
  | [] => 0
  | x :: r => uptoBulkEntry x + uptoBulkEntries r
def uptoBulkEntry {H : Type} : Lit × DataW H → Nat
  | (.string bytes, d) => bytes.length + uptoBulk d + 1
  | (_, d) => uptoBulk d + 1
 end
def uptoSmall : (H : Type) → List (DataW H) → Bool := fun _ ds => decide (uptoBulkAll ds ≤ 1048576)
def OpenSpec.upto (s : _root_.Go.ChangeSpec) : _root_.Go.OpenSpec := { _root_.Go.OpenSpec.ofChange s with cond := some uptoSmall }

/-- 'laws.FnEqualSamples', WHERE WHAT IT READS IS OF BULK AT MOST 1048576: true; the input reads as it did. -/
def fnEqualSamplesUptoRow : OpenClaim := { program := "ytpaociigfbibbaa", sum := "082a5942ea8559da6a5ffb52be0208b613178142e4897132b32775cb0c242d54", func := "renowindow/laws.FnEqualSamples", spec := "fnEqualSamples", unfollowed := true, recurses := true, apart := false, narrowed := true }
def FnEqualSamplesUptoSaid : Prop := fnEqualSamplesUptoRow.holds Try.pinned (OpenSpec.upto fnEqualSamplesSpec)

/-- 'laws.FnFirst', WHERE WHAT IT READS IS OF BULK AT MOST 1048576: true; the input reads as it did. -/
def fnFirstUptoRow : OpenClaim := { program := "ytpaociigfbibbaa", sum := "082a5942ea8559da6a5ffb52be0208b613178142e4897132b32775cb0c242d54", func := "renowindow/laws.FnFirst", spec := "fnFirst", unfollowed := true, recurses := true, apart := false, narrowed := true }
def FnFirstUptoSaid : Prop := fnFirstUptoRow.holds Try.pinned (OpenSpec.upto fnFirstSpec)

/-- 'laws.FnFlight', WHERE WHAT IT READS IS OF BULK AT MOST 1048576: true; the input reads as it did. -/
def fnFlightUptoRow : OpenClaim := { program := "ytpaociigfbibbaa", sum := "082a5942ea8559da6a5ffb52be0208b613178142e4897132b32775cb0c242d54", func := "renowindow/laws.FnFlight", spec := "fnFlight", unfollowed := true, recurses := true, apart := false, narrowed := true }
def FnFlightUptoSaid : Prop := fnFlightUptoRow.holds Try.pinned (OpenSpec.upto fnFlightSpec)

/-- 'laws.FnGrowth', WHERE WHAT IT READS IS OF BULK AT MOST 1048576: true; the input reads as it did. -/
def fnGrowthUptoRow : OpenClaim := { program := "ytpaociigfbibbaa", sum := "082a5942ea8559da6a5ffb52be0208b613178142e4897132b32775cb0c242d54", func := "renowindow/laws.FnGrowth", spec := "fnGrowth", unfollowed := true, recurses := true, apart := false, narrowed := true }
def FnGrowthUptoSaid : Prop := fnGrowthUptoRow.holds Try.pinned (OpenSpec.upto fnGrowthSpec)

/-- 'laws.FnPersistentCongestion', WHERE WHAT IT READS IS OF BULK AT MOST 1048576: true; the input reads as it did. -/
def fnPersistentCongestionUptoRow : OpenClaim := { program := "ytpaociigfbibbaa", sum := "082a5942ea8559da6a5ffb52be0208b613178142e4897132b32775cb0c242d54", func := "renowindow/laws.FnPersistentCongestion", spec := "fnPersistentCongestion", unfollowed := true, recurses := true, apart := false, narrowed := true }
def FnPersistentCongestionUptoSaid : Prop := fnPersistentCongestionUptoRow.holds Try.pinned (OpenSpec.upto fnPersistentCongestionSpec)

/-- 'laws.FnSample', WHERE WHAT IT READS IS OF BULK AT MOST 1048576: true; the input reads as it did. -/
def fnSampleUptoRow : OpenClaim := { program := "ytpaociigfbibbaa", sum := "082a5942ea8559da6a5ffb52be0208b613178142e4897132b32775cb0c242d54", func := "renowindow/laws.FnSample", spec := "fnSample", unfollowed := true, recurses := true, apart := false, narrowed := true }
def FnSampleUptoSaid : Prop := fnSampleUptoRow.holds Try.pinned (OpenSpec.upto fnSampleSpec)

/-- 'laws.FnState', WHERE WHAT IT READS IS OF BULK AT MOST 1048576: true; the input reads as it did. -/
def fnStateUptoRow : OpenClaim := { program := "ytpaociigfbibbaa", sum := "082a5942ea8559da6a5ffb52be0208b613178142e4897132b32775cb0c242d54", func := "renowindow/laws.FnState", spec := "fnState", unfollowed := true, recurses := true, apart := false, narrowed := true }
def FnStateUptoSaid : Prop := fnStateUptoRow.holds Try.pinned (OpenSpec.upto fnStateSpec)

/-- 'laws.FnWindowIsKept', WHERE WHAT IT READS IS OF BULK AT MOST 1048576: true; the input reads as it did. -/
def fnWindowIsKeptUptoRow : OpenClaim := { program := "ytpaociigfbibbaa", sum := "082a5942ea8559da6a5ffb52be0208b613178142e4897132b32775cb0c242d54", func := "renowindow/laws.FnWindowIsKept", spec := "fnWindowIsKept", unfollowed := true, recurses := true, apart := false, narrowed := true }
def FnWindowIsKeptUptoSaid : Prop := fnWindowIsKeptUptoRow.holds Try.pinned (OpenSpec.upto fnWindowIsKeptSpec)

end Rows
end Go.Proofs.Ytpaociigfbibbaa

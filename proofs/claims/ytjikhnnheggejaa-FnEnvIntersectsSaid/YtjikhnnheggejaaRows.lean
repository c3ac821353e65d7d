/-
  No cell of these rows narrows 'for every input' (looked for: loops, veiled, ifaces, maps, wideKeys, modest, calm, conditions, laid).
  DERIVED. THE GIVEN ROWS OF THIS SEAT. 4 by the template 'for every input the law returns true; each argument reads behind the call as it read before'; 0 by the template 'total and deterministic' (their statements: YtjikhnnheggejaaTotals.lean).
  GIVEN WITH THE SEED: the statements are not yours to turn. If you find one false, say at which input.
  Laid BY PROGRAM, IN A SANDBOX (cutbox-rows.mjs): the forced cells as the released guide's own fill.sh prints them over the translation 14a404f5590f8cb5… (all of the seat's roots in one cut). By AI agents, Wed Nov 11 2026. No macro, syntax, notation, axiom, sorry.
-/
import Derived.Test.YtjikhnnheggejaaChecked
import GoSem.Claim
import GoSem.ClaimJoined
import GoSem.ClaimMapViews
import Derived.JoinedTies
import Derived.KernelRfl
namespace Go.Proofs.Ytjikhnnheggejaa
/- THE CELL 'sum', in the pinned program and in every row, IS THE sha256 OF THE DUMP (.gsa) THAT YtjikhnnheggejaaProg.lean LOADS. Nothing in Lean hashes anything: it is a label: what it is worth is what the hold of that sum in a sandbox is worth. -/
noncomputable def Try.pinned : Pinned := { name := "ytjikhnnheggejaa", sum := "14a404f5590f8cb5d98036bb967c7dd02f4f1b119e68b426f791545e88e23839", checked := Try.checked }
namespace Rows
def none {H : Type} : Left H := { results := [], args := [] }

/-- 'laws.FnBoxDistance': WHATEVER THE INPUT: true; the input reads as it did. -/
def fnBoxDistanceSpec : ChangeSpec := { name := "fnBoxDistance", fn := fun _ => fun
  | [d1, d2] => { results := [.lit (.bool true)], args := [d1, d2] }
  | _ => none }
def fnBoxDistanceRow : OpenClaim := { program := "ytjikhnnheggejaa", sum := "14a404f5590f8cb5d98036bb967c7dd02f4f1b119e68b426f791545e88e23839", func := "pub-alidade/laws.FnBoxDistance", spec := "fnBoxDistance", inPlace := ["math.archTrunc", "math.Float64bits", "math.Float64frombits"], apart := false }
def FnBoxDistanceSaid : Prop := fnBoxDistanceRow.holds Try.pinned (OpenSpec.ofChange fnBoxDistanceSpec)

/-- ITS FALSE NEIGHBOUR: 'it returns false'. Refute it at one input. -/
def fnBoxDistanceWrong : ChangeSpec := { name := "fnBoxDistance", fn := fun _ => fun
  | [d1, d2] => { results := [.lit (.bool false)], args := [d1, d2] }
  | _ => none }
def FnBoxDistanceWrongFalsely : Prop := fnBoxDistanceRow.holds Try.pinned (OpenSpec.ofChange fnBoxDistanceWrong)

/-- 'laws.FnXYMidpoint': WHATEVER THE INPUT: true; the input reads as it did. -/
def fnXYMidpointSpec : ChangeSpec := { name := "fnXYMidpoint", fn := fun _ => fun
  | [d1, d2] => { results := [.lit (.bool true)], args := [d1, d2] }
  | _ => none }
def fnXYMidpointRow : OpenClaim := { program := "ytjikhnnheggejaa", sum := "14a404f5590f8cb5d98036bb967c7dd02f4f1b119e68b426f791545e88e23839", func := "pub-alidade/laws.FnXYMidpoint", spec := "fnXYMidpoint", inPlace := ["math.archTrunc", "math.Float64bits", "math.Float64frombits"], apart := false }
def FnXYMidpointSaid : Prop := fnXYMidpointRow.holds Try.pinned (OpenSpec.ofChange fnXYMidpointSpec)

/-- ITS FALSE NEIGHBOUR: 'it returns false'. Refute it at one input. -/
def fnXYMidpointWrong : ChangeSpec := { name := "fnXYMidpoint", fn := fun _ => fun
  | [d1, d2] => { results := [.lit (.bool false)], args := [d1, d2] }
  | _ => none }
def FnXYMidpointWrongFalsely : Prop := fnXYMidpointRow.holds Try.pinned (OpenSpec.ofChange fnXYMidpointWrong)

/-- 'laws.FnEnvIntersects': WHATEVER THE INPUT: true; the input reads as it did. -/
def fnEnvIntersectsSpec : ChangeSpec := { name := "fnEnvIntersects", fn := fun _ => fun
  | [d1, d2] => { results := [.lit (.bool true)], args := [d1, d2] }
  | _ => none }
def fnEnvIntersectsRow : OpenClaim := { program := "ytjikhnnheggejaa", sum := "14a404f5590f8cb5d98036bb967c7dd02f4f1b119e68b426f791545e88e23839", func := "pub-alidade/laws.FnEnvIntersects", spec := "fnEnvIntersects", inPlace := ["math.Float64bits", "math.Float64frombits"], apart := false }
def FnEnvIntersectsSaid : Prop := fnEnvIntersectsRow.holds Try.pinned (OpenSpec.ofChange fnEnvIntersectsSpec)

/-- ITS FALSE NEIGHBOUR: 'it returns false'. Refute it at one input. -/
def fnEnvIntersectsWrong : ChangeSpec := { name := "fnEnvIntersects", fn := fun _ => fun
  | [d1, d2] => { results := [.lit (.bool false)], args := [d1, d2] }
  | _ => none }
def FnEnvIntersectsWrongFalsely : Prop := fnEnvIntersectsRow.holds Try.pinned (OpenSpec.ofChange fnEnvIntersectsWrong)

/-- 'laws.FnNewEnvelope': WHATEVER THE INPUT: true; the input reads as it did. -/
def fnNewEnvelopeSpec : ChangeSpec := { name := "fnNewEnvelope", fn := fun _ => fun
  | [d] => { results := [.lit (.bool true)], args := [d] }
  | _ => none }
def fnNewEnvelopeRow : OpenClaim := { program := "ytjikhnnheggejaa", sum := "14a404f5590f8cb5d98036bb967c7dd02f4f1b119e68b426f791545e88e23839", func := "pub-alidade/laws.FnNewEnvelope", spec := "fnNewEnvelope", inPlace := ["math.Float64bits", "math.Float64frombits"], apart := false }
def FnNewEnvelopeSaid : Prop := fnNewEnvelopeRow.holds Try.pinned (OpenSpec.ofChange fnNewEnvelopeSpec)

/-- ITS FALSE NEIGHBOUR: 'it returns false'. Refute it at one input. -/
def fnNewEnvelopeWrong : ChangeSpec := { name := "fnNewEnvelope", fn := fun _ => fun
  | [d] => { results := [.lit (.bool false)], args := [d] }
  | _ => none }
def FnNewEnvelopeWrongFalsely : Prop := fnNewEnvelopeRow.holds Try.pinned (OpenSpec.ofChange fnNewEnvelopeWrong)

/- THE SECOND FORM. 'bulk': how many values and letters a reading holds, each counted each time it is reached (what is shared counts as often as it is met; a slice's spare places count too). A statement '..UptoSaid' is the law's where the arguments, and the package variables that the reading takes, are together of bulk at most 1048576: NARROWER than '..Said'. Prove '..Said' where nothing that the law and all that it calls make is longer than what came in: it says more and counts as full. Else prove '..UptoSaid'. A law counts once. -/
mutual
def uptoBulk {H : Type} : DataW H → Nat
  | .lit (.string bytes) => bytes.length + 1
  | .lit _ => 1
  | .nil => 1
  | .ptr d => uptoBulk d + 1
  | .slice elems spare => uptoBulkAll elems + uptoBulkAll spare + 1
  | .agg parts => uptoBulkAll parts + 1
  | .iface _ d => uptoBulk d + 1
  | .map entries => uptoBulkEntries entries + 1
  | .held _ => 1
def uptoBulkAll {H : Type} : List (DataW H) → Nat
  | [] => 0
  | d :: r => uptoBulk d + uptoBulkAll r
def uptoBulkEntries {H : Type} : List (Lit × DataW H) → Nat
  | [] => 0
  | x :: r => uptoBulkEntry x + uptoBulkEntries r
def uptoBulkEntry {H : Type} : Lit × DataW H → Nat
  | (.string bytes, d) => bytes.length + uptoBulk d + 1
  | (_, d) => uptoBulk d + 1
 end
def uptoSmall : (H : Type) → List (DataW H) → Bool := fun _ ds => decide (uptoBulkAll ds ≤ 1048576)
def OpenSpec.upto (s : _root_.Go.ChangeSpec) : _root_.Go.OpenSpec := { _root_.Go.OpenSpec.ofChange s with cond := some uptoSmall }

/-- 'laws.FnBoxDistance', WHERE WHAT IT READS IS OF BULK AT MOST 1048576: true; the input reads as it did. -/
def fnBoxDistanceUptoRow : OpenClaim := { program := "ytjikhnnheggejaa", sum := "14a404f5590f8cb5d98036bb967c7dd02f4f1b119e68b426f791545e88e23839", func := "pub-alidade/laws.FnBoxDistance", spec := "fnBoxDistance", inPlace := ["math.archTrunc", "math.Float64bits", "math.Float64frombits"], apart := false, narrowed := true }
def FnBoxDistanceUptoSaid : Prop := fnBoxDistanceUptoRow.holds Try.pinned (OpenSpec.upto fnBoxDistanceSpec)

/-- 'laws.FnXYMidpoint', WHERE WHAT IT READS IS OF BULK AT MOST 1048576: true; the input reads as it did. -/
def fnXYMidpointUptoRow : OpenClaim := { program := "ytjikhnnheggejaa", sum := "14a404f5590f8cb5d98036bb967c7dd02f4f1b119e68b426f791545e88e23839", func := "pub-alidade/laws.FnXYMidpoint", spec := "fnXYMidpoint", inPlace := ["math.archTrunc", "math.Float64bits", "math.Float64frombits"], apart := false, narrowed := true }
def FnXYMidpointUptoSaid : Prop := fnXYMidpointUptoRow.holds Try.pinned (OpenSpec.upto fnXYMidpointSpec)

/-- 'laws.FnEnvIntersects', WHERE WHAT IT READS IS OF BULK AT MOST 1048576: true; the input reads as it did. -/
def fnEnvIntersectsUptoRow : OpenClaim := { program := "ytjikhnnheggejaa", sum := "14a404f5590f8cb5d98036bb967c7dd02f4f1b119e68b426f791545e88e23839", func := "pub-alidade/laws.FnEnvIntersects", spec := "fnEnvIntersects", inPlace := ["math.Float64bits", "math.Float64frombits"], apart := false, narrowed := true }
def FnEnvIntersectsUptoSaid : Prop := fnEnvIntersectsUptoRow.holds Try.pinned (OpenSpec.upto fnEnvIntersectsSpec)

/-- 'laws.FnNewEnvelope', WHERE WHAT IT READS IS OF BULK AT MOST 1048576: true; the input reads as it did. -/
def fnNewEnvelopeUptoRow : OpenClaim := { program := "ytjikhnnheggejaa", sum := "14a404f5590f8cb5d98036bb967c7dd02f4f1b119e68b426f791545e88e23839", func := "pub-alidade/laws.FnNewEnvelope", spec := "fnNewEnvelope", inPlace := ["math.Float64bits", "math.Float64frombits"], apart := false, narrowed := true }
def FnNewEnvelopeUptoSaid : Prop := fnNewEnvelopeUptoRow.holds Try.pinned (OpenSpec.upto fnNewEnvelopeSpec)

end Rows
end Go.Proofs.Ytjikhnnheggejaa

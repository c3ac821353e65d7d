/-
  NARROWER THAN 'FOR EVERY INPUT', by the rows' own cells (each row's printed sentence says how): FnSeqReverseTwice: loops · FnPointForce: loops · FnRotateLines: loops · FnPolygonPlaces: loops · FnPolygonTransform: loops.
  DERIVED. THE GIVEN ROWS OF THIS SEAT. 8 by the template 'for every input the law returns true; each argument reads behind the call as it read before'; 0 by the template 'total and deterministic' (their statements: YtihkmkcjjlmkhaaTotals.lean).
  GIVEN WITH THE SEED: the statements are not yours to turn. If you find one false, say at which input.
  Laid BY PROGRAM, IN A SANDBOX (cutbox-rows.mjs): the forced cells as the released guide's own fill.sh prints them over the translation 4727b14e0f24372b… (all of the seat's roots in one cut). By AI agents, Wed Nov 11 2026. No macro, syntax, notation, axiom, sorry.
-/
import Derived.Test.YtihkmkcjjlmkhaaChecked
import GoSem.Claim
import GoSem.ClaimJoined
import GoSem.ClaimMapViews
import Derived.JoinedTies
import Derived.KernelRfl
namespace Go.Proofs.Ytihkmkcjjlmkhaa
/- THE CELL 'sum', in the pinned program and in every row, IS THE sha256 OF THE DUMP (.gsa) THAT YtihkmkcjjlmkhaaProg.lean LOADS. Nothing in Lean hashes anything: it is a label: what it is worth is what the hold of that sum in a sandbox is worth. -/
noncomputable def Try.pinned : Pinned := { name := "ytihkmkcjjlmkhaa", sum := "4727b14e0f24372b533d0f3898cdbfe9056f1a75536804e1341f8684b53d26b4", checked := Try.checked }
namespace Rows
def none {H : Type} : Left H := { results := [], args := [] }

/-- 'laws.FnSeqReverseTwice': WHATEVER THE INPUT: true; the input reads as it did. -/
def fnSeqReverseTwiceSpec : ChangeSpec := { name := "fnSeqReverseTwice", fn := fun _ => fun
  | [d] => { results := [.lit (.bool true)], args := [d] }
  | _ => none }
def fnSeqReverseTwiceRow : OpenClaim := { program := "ytihkmkcjjlmkhaa", sum := "4727b14e0f24372b533d0f3898cdbfe9056f1a75536804e1341f8684b53d26b4", func := "pub-alidade/laws.FnSeqReverseTwice", spec := "fnSeqReverseTwice", inPlace := ["math.Float64bits"], recurses := true, loops := true, apart := false }
def FnSeqReverseTwiceSaid : Prop := fnSeqReverseTwiceRow.holds Try.pinned (OpenSpec.ofChange fnSeqReverseTwiceSpec)

/-- ITS FALSE NEIGHBOUR: 'it returns false'. Refute it at one input. -/
def fnSeqReverseTwiceWrong : ChangeSpec := { name := "fnSeqReverseTwice", fn := fun _ => fun
  | [d] => { results := [.lit (.bool false)], args := [d] }
  | _ => none }
def FnSeqReverseTwiceWrongFalsely : Prop := fnSeqReverseTwiceRow.holds Try.pinned (OpenSpec.ofChange fnSeqReverseTwiceWrong)

/-- 'laws.FnPointForce': WHATEVER THE INPUT: true; the input reads as it did. -/
def fnPointForceSpec : ChangeSpec := { name := "fnPointForce", fn := fun _ => fun
  | [d1, d2] => { results := [.lit (.bool true)], args := [d1, d2] }
  | _ => none }
def fnPointForceRow : OpenClaim := { program := "ytihkmkcjjlmkhaa", sum := "4727b14e0f24372b533d0f3898cdbfe9056f1a75536804e1341f8684b53d26b4", func := "pub-alidade/laws.FnPointForce", spec := "fnPointForce", inPlace := ["math.Float64bits"], recurses := true, loops := true, apart := false }
def FnPointForceSaid : Prop := fnPointForceRow.holds Try.pinned (OpenSpec.ofChange fnPointForceSpec)

/-- ITS FALSE NEIGHBOUR: 'it returns false'. Refute it at one input. -/
def fnPointForceWrong : ChangeSpec := { name := "fnPointForce", fn := fun _ => fun
  | [d1, d2] => { results := [.lit (.bool false)], args := [d1, d2] }
  | _ => none }
def FnPointForceWrongFalsely : Prop := fnPointForceRow.holds Try.pinned (OpenSpec.ofChange fnPointForceWrong)

/-- 'laws.FnLerpBetween': WHATEVER THE INPUT: true; the input reads as it did. -/
def fnLerpBetweenSpec : ChangeSpec := { name := "fnLerpBetween", fn := fun _ => fun
  | [d1, d2, d3] => { results := [.lit (.bool true)], args := [d1, d2, d3] }
  | _ => none }
def fnLerpBetweenRow : OpenClaim := { program := "ytihkmkcjjlmkhaa", sum := "4727b14e0f24372b533d0f3898cdbfe9056f1a75536804e1341f8684b53d26b4", func := "pub-alidade/laws.FnLerpBetween", spec := "fnLerpBetween", inPlace := ["math.Float64bits", "math.Float64frombits", "math.archMax", "math.archMin"], apart := false }
def FnLerpBetweenSaid : Prop := fnLerpBetweenRow.holds Try.pinned (OpenSpec.ofChange fnLerpBetweenSpec)

/-- ITS FALSE NEIGHBOUR: 'it returns false'. Refute it at one input. -/
def fnLerpBetweenWrong : ChangeSpec := { name := "fnLerpBetween", fn := fun _ => fun
  | [d1, d2, d3] => { results := [.lit (.bool false)], args := [d1, d2, d3] }
  | _ => none }
def FnLerpBetweenWrongFalsely : Prop := fnLerpBetweenRow.holds Try.pinned (OpenSpec.ofChange fnLerpBetweenWrong)

/-- 'laws.FnRotateLines': WHATEVER THE INPUT: true; the input reads as it did. -/
def fnRotateLinesSpec : ChangeSpec := { name := "fnRotateLines", fn := fun _ => fun
  | [d1, d2] => { results := [.lit (.bool true)], args := [d1, d2] }
  | _ => none }
def fnRotateLinesRow : OpenClaim := { program := "ytihkmkcjjlmkhaa", sum := "4727b14e0f24372b533d0f3898cdbfe9056f1a75536804e1341f8684b53d26b4", func := "pub-alidade/laws.FnRotateLines", spec := "fnRotateLines", inPlace := ["math.Float64bits"], recurses := true, loops := true, apart := false }
def FnRotateLinesSaid : Prop := fnRotateLinesRow.holds Try.pinned (OpenSpec.ofChange fnRotateLinesSpec)

/-- ITS FALSE NEIGHBOUR: 'it returns false'. Refute it at one input. -/
def fnRotateLinesWrong : ChangeSpec := { name := "fnRotateLines", fn := fun _ => fun
  | [d1, d2] => { results := [.lit (.bool false)], args := [d1, d2] }
  | _ => none }
def FnRotateLinesWrongFalsely : Prop := fnRotateLinesRow.holds Try.pinned (OpenSpec.ofChange fnRotateLinesWrong)

/-- 'laws.FnEnvSizes': WHATEVER THE INPUT: true; the input reads as it did. -/
def fnEnvSizesSpec : ChangeSpec := { name := "fnEnvSizes", fn := fun _ => fun
  | [d] => { results := [.lit (.bool true)], args := [d] }
  | _ => none }
def fnEnvSizesRow : OpenClaim := { program := "ytihkmkcjjlmkhaa", sum := "4727b14e0f24372b533d0f3898cdbfe9056f1a75536804e1341f8684b53d26b4", func := "pub-alidade/laws.FnEnvSizes", spec := "fnEnvSizes", inPlace := ["math.archTrunc", "math.Float64bits", "math.Float64frombits"], apart := false }
def FnEnvSizesSaid : Prop := fnEnvSizesRow.holds Try.pinned (OpenSpec.ofChange fnEnvSizesSpec)

/-- ITS FALSE NEIGHBOUR: 'it returns false'. Refute it at one input. -/
def fnEnvSizesWrong : ChangeSpec := { name := "fnEnvSizes", fn := fun _ => fun
  | [d] => { results := [.lit (.bool false)], args := [d] }
  | _ => none }
def FnEnvSizesWrongFalsely : Prop := fnEnvSizesRow.holds Try.pinned (OpenSpec.ofChange fnEnvSizesWrong)

/-- 'laws.FnPolygonPlaces': WHATEVER THE INPUT: true; the input reads as it did. -/
def fnPolygonPlacesSpec : ChangeSpec := { name := "fnPolygonPlaces", fn := fun _ => fun
  | [d] => { results := [.lit (.bool true)], args := [d] }
  | _ => none }
def fnPolygonPlacesRow : OpenClaim := { program := "ytihkmkcjjlmkhaa", sum := "4727b14e0f24372b533d0f3898cdbfe9056f1a75536804e1341f8684b53d26b4", func := "pub-alidade/laws.FnPolygonPlaces", spec := "fnPolygonPlaces", inPlace := ["math.Float64bits"], recurses := true, loops := true, apart := false }
def FnPolygonPlacesSaid : Prop := fnPolygonPlacesRow.holds Try.pinned (OpenSpec.ofChange fnPolygonPlacesSpec)

/-- ITS FALSE NEIGHBOUR: 'it returns false'. Refute it at one input. -/
def fnPolygonPlacesWrong : ChangeSpec := { name := "fnPolygonPlaces", fn := fun _ => fun
  | [d] => { results := [.lit (.bool false)], args := [d] }
  | _ => none }
def FnPolygonPlacesWrongFalsely : Prop := fnPolygonPlacesRow.holds Try.pinned (OpenSpec.ofChange fnPolygonPlacesWrong)

/-- 'laws.FnLineBoundary': WHATEVER THE INPUT: true; the input reads as it did. -/
def fnLineBoundarySpec : ChangeSpec := { name := "fnLineBoundary", fn := fun _ => fun
  | [d1, d2] => { results := [.lit (.bool true)], args := [d1, d2] }
  | _ => none }
def fnLineBoundaryRow : OpenClaim := { program := "ytihkmkcjjlmkhaa", sum := "4727b14e0f24372b533d0f3898cdbfe9056f1a75536804e1341f8684b53d26b4", func := "pub-alidade/laws.FnLineBoundary", spec := "fnLineBoundary", inPlace := ["math.Float64bits"], unfollowed := true, recurses := true, apart := false }
def FnLineBoundarySaid : Prop := fnLineBoundaryRow.holds Try.pinned (OpenSpec.ofChange fnLineBoundarySpec)

/-- ITS FALSE NEIGHBOUR: 'it returns false'. Refute it at one input. -/
def fnLineBoundaryWrong : ChangeSpec := { name := "fnLineBoundary", fn := fun _ => fun
  | [d1, d2] => { results := [.lit (.bool false)], args := [d1, d2] }
  | _ => none }
def FnLineBoundaryWrongFalsely : Prop := fnLineBoundaryRow.holds Try.pinned (OpenSpec.ofChange fnLineBoundaryWrong)

/-- 'laws.FnPolygonTransform': WHATEVER THE INPUT: true; the input reads as it did. -/
def fnPolygonTransformSpec : ChangeSpec := { name := "fnPolygonTransform", fn := fun _ => fun
  | [d1, d2] => { results := [.lit (.bool true)], args := [d1, d2] }
  | _ => none }
def fnPolygonTransformRow : OpenClaim := { program := "ytihkmkcjjlmkhaa", sum := "4727b14e0f24372b533d0f3898cdbfe9056f1a75536804e1341f8684b53d26b4", func := "pub-alidade/laws.FnPolygonTransform", spec := "fnPolygonTransform", inPlace := ["math.archTrunc", "math.Float64bits", "math.Float64frombits"], unfollowed := true, recurses := true, loops := true, apart := false }
def FnPolygonTransformSaid : Prop := fnPolygonTransformRow.holds Try.pinned (OpenSpec.ofChange fnPolygonTransformSpec)

/-- ITS FALSE NEIGHBOUR: 'it returns false'. Refute it at one input. -/
def fnPolygonTransformWrong : ChangeSpec := { name := "fnPolygonTransform", fn := fun _ => fun
  | [d1, d2] => { results := [.lit (.bool false)], args := [d1, d2] }
  | _ => none }
def FnPolygonTransformWrongFalsely : Prop := fnPolygonTransformRow.holds Try.pinned (OpenSpec.ofChange fnPolygonTransformWrong)

/- THE SECOND FORM. 'bulk': how many values and letters a reading holds, each counted each time it is reached (what is shared counts as often as it is met; a slice's spare places count too). A statement '..UptoSaid' is the law's where the arguments, and the package variables that the reading takes, are together of bulk at most 1048576: NARROWER than '..Said'. Prove '..Said' where nothing that the law and all that it calls make is longer than what came in: it says more and counts as full. Else prove '..UptoSaid'. A law counts once. -/
mutual
def uptoBulk {H : Type} : DataW H → Nat
  | .lit (.string bytes) => bytes.length + 1
  | .lit _ => 1
  | .nil => 1
  | .ptr d => uptoBulk d + 1
  | .slice elems spare => uptoBulkAll elems + uptoBulkAll spare + 1
  | .agg parts => uptoBulkAll parts + 1
  | .iface _ d => uptoBulk d + 1
  | .map entries => uptoBulkEntries entries + 1
  | .held _ => 1
def uptoBulkAll {H : Type} : List (DataW H) → Nat
  | [] => 0
  | d :: r => uptoBulk d + uptoBulkAll r
def uptoBulkEntries {H : Type} : List (Lit × DataW H) → Nat
  | [] => 0
  | x :: r => uptoBulkEntry x + uptoBulkEntries r
def uptoBulkEntry {H : Type} : Lit × DataW H → Nat
  | (.string bytes, d) => bytes.length + uptoBulk d + 1
  | (_, d) => uptoBulk d + 1
 end
def uptoSmall : (H : Type) → List (DataW H) → Bool := fun _ ds => decide (uptoBulkAll ds ≤ 1048576)
def OpenSpec.upto (s : _root_.Go.ChangeSpec) : _root_.Go.OpenSpec := { _root_.Go.OpenSpec.ofChange s with cond := some uptoSmall }

/-- 'laws.FnSeqReverseTwice', WHERE WHAT IT READS IS OF BULK AT MOST 1048576: true; the input reads as it did. -/
def fnSeqReverseTwiceUptoRow : OpenClaim := { program := "ytihkmkcjjlmkhaa", sum := "4727b14e0f24372b533d0f3898cdbfe9056f1a75536804e1341f8684b53d26b4", func := "pub-alidade/laws.FnSeqReverseTwice", spec := "fnSeqReverseTwice", inPlace := ["math.Float64bits"], recurses := true, loops := true, apart := false, narrowed := true }
def FnSeqReverseTwiceUptoSaid : Prop := fnSeqReverseTwiceUptoRow.holds Try.pinned (OpenSpec.upto fnSeqReverseTwiceSpec)

/-- 'laws.FnPointForce', WHERE WHAT IT READS IS OF BULK AT MOST 1048576: true; the input reads as it did. -/
def fnPointForceUptoRow : OpenClaim := { program := "ytihkmkcjjlmkhaa", sum := "4727b14e0f24372b533d0f3898cdbfe9056f1a75536804e1341f8684b53d26b4", func := "pub-alidade/laws.FnPointForce", spec := "fnPointForce", inPlace := ["math.Float64bits"], recurses := true, loops := true, apart := false, narrowed := true }
def FnPointForceUptoSaid : Prop := fnPointForceUptoRow.holds Try.pinned (OpenSpec.upto fnPointForceSpec)

/-- 'laws.FnLerpBetween', WHERE WHAT IT READS IS OF BULK AT MOST 1048576: true; the input reads as it did. -/
def fnLerpBetweenUptoRow : OpenClaim := { program := "ytihkmkcjjlmkhaa", sum := "4727b14e0f24372b533d0f3898cdbfe9056f1a75536804e1341f8684b53d26b4", func := "pub-alidade/laws.FnLerpBetween", spec := "fnLerpBetween", inPlace := ["math.Float64bits", "math.Float64frombits", "math.archMax", "math.archMin"], apart := false, narrowed := true }
def FnLerpBetweenUptoSaid : Prop := fnLerpBetweenUptoRow.holds Try.pinned (OpenSpec.upto fnLerpBetweenSpec)

/-- 'laws.FnRotateLines', WHERE WHAT IT READS IS OF BULK AT MOST 1048576: true; the input reads as it did. -/
def fnRotateLinesUptoRow : OpenClaim := { program := "ytihkmkcjjlmkhaa", sum := "4727b14e0f24372b533d0f3898cdbfe9056f1a75536804e1341f8684b53d26b4", func := "pub-alidade/laws.FnRotateLines", spec := "fnRotateLines", inPlace := ["math.Float64bits"], recurses := true, loops := true, apart := false, narrowed := true }
def FnRotateLinesUptoSaid : Prop := fnRotateLinesUptoRow.holds Try.pinned (OpenSpec.upto fnRotateLinesSpec)

/-- 'laws.FnEnvSizes', WHERE WHAT IT READS IS OF BULK AT MOST 1048576: true; the input reads as it did. -/
def fnEnvSizesUptoRow : OpenClaim := { program := "ytihkmkcjjlmkhaa", sum := "4727b14e0f24372b533d0f3898cdbfe9056f1a75536804e1341f8684b53d26b4", func := "pub-alidade/laws.FnEnvSizes", spec := "fnEnvSizes", inPlace := ["math.archTrunc", "math.Float64bits", "math.Float64frombits"], apart := false, narrowed := true }
def FnEnvSizesUptoSaid : Prop := fnEnvSizesUptoRow.holds Try.pinned (OpenSpec.upto fnEnvSizesSpec)

/-- 'laws.FnPolygonPlaces', WHERE WHAT IT READS IS OF BULK AT MOST 1048576: true; the input reads as it did. -/
def fnPolygonPlacesUptoRow : OpenClaim := { program := "ytihkmkcjjlmkhaa", sum := "4727b14e0f24372b533d0f3898cdbfe9056f1a75536804e1341f8684b53d26b4", func := "pub-alidade/laws.FnPolygonPlaces", spec := "fnPolygonPlaces", inPlace := ["math.Float64bits"], recurses := true, loops := true, apart := false, narrowed := true }
def FnPolygonPlacesUptoSaid : Prop := fnPolygonPlacesUptoRow.holds Try.pinned (OpenSpec.upto fnPolygonPlacesSpec)

/-- 'laws.FnLineBoundary', WHERE WHAT IT READS IS OF BULK AT MOST 1048576: true; the input reads as it did. -/
def fnLineBoundaryUptoRow : OpenClaim := { program := "ytihkmkcjjlmkhaa", sum := "4727b14e0f24372b533d0f3898cdbfe9056f1a75536804e1341f8684b53d26b4", func := "pub-alidade/laws.FnLineBoundary", spec := "fnLineBoundary", inPlace := ["math.Float64bits"], unfollowed := true, recurses := true, apart := false, narrowed := true }
def FnLineBoundaryUptoSaid : Prop := fnLineBoundaryUptoRow.holds Try.pinned (OpenSpec.upto fnLineBoundarySpec)

/-- 'laws.FnPolygonTransform', WHERE WHAT IT READS IS OF BULK AT MOST 1048576: true; the input reads as it did. -/
def fnPolygonTransformUptoRow : OpenClaim := { program := "ytihkmkcjjlmkhaa", sum := "4727b14e0f24372b533d0f3898cdbfe9056f1a75536804e1341f8684b53d26b4", func := "pub-alidade/laws.FnPolygonTransform", spec := "fnPolygonTransform", inPlace := ["math.archTrunc", "math.Float64bits", "math.Float64frombits"], unfollowed := true, recurses := true, loops := true, apart := false, narrowed := true }
def FnPolygonTransformUptoSaid : Prop := fnPolygonTransformUptoRow.holds Try.pinned (OpenSpec.upto fnPolygonTransformSpec)

end Rows
end Go.Proofs.Ytihkmkcjjlmkhaa

/-
  NARROWER THAN 'FOR EVERY INPUT', by the rows' own cells (each row's printed sentence says how): FnSeqLength: loops.
  DERIVED. THE GIVEN ROWS OF THIS SEAT. 12 by the template 'for every input the law returns true; each argument reads behind the call as it read before'; 0 by the template 'total and deterministic' (their statements: YtciblaabghiefaaTotals.lean).
  GIVEN WITH THE SEED: the statements are not yours to turn. If you find one false, say at which input.
  Laid BY PROGRAM, IN A SANDBOX (cutbox-rows.mjs): the forced cells as the released guide's own fill.sh prints them over the translation d5e12c477675bb49… (all of the seat's roots in one cut). By AI agents, Wed Nov 11 2026. No macro, syntax, notation, axiom, sorry.
-/
import Derived.Test.YtciblaabghiefaaChecked
import GoSem.Claim
import GoSem.ClaimJoined
import GoSem.ClaimMapViews
import Derived.JoinedTies
import Derived.KernelRfl
namespace Go.Proofs.Ytciblaabghiefaa
/- THE CELL 'sum', in the pinned program and in every row, IS THE sha256 OF THE DUMP (.gsa) THAT YtciblaabghiefaaProg.lean LOADS. Nothing in Lean hashes anything: it is a label: what it is worth is what the hold of that sum in a sandbox is worth. -/
noncomputable def Try.pinned : Pinned := { name := "ytciblaabghiefaa", sum := "d5e12c477675bb49b897d71d379f2dd35aa007cb942b849e35442ff93a998a98", checked := Try.checked }
namespace Rows
def none {H : Type} : Left H := { results := [], args := [] }

/-- 'laws.FnZigZag': WHATEVER THE INPUT: true; the input reads as it did. -/
def fnZigZagSpec : ChangeSpec := { name := "fnZigZag", fn := fun _ => fun
  | [d] => { results := [.lit (.bool true)], args := [d] }
  | _ => none }
def fnZigZagRow : OpenClaim := { program := "ytciblaabghiefaa", sum := "d5e12c477675bb49b897d71d379f2dd35aa007cb942b849e35442ff93a998a98", func := "pub-alidade/laws.FnZigZag", spec := "fnZigZag", apart := false }
def FnZigZagSaid : Prop := fnZigZagRow.holds Try.pinned (OpenSpec.ofChange fnZigZagSpec)

/-- ITS FALSE NEIGHBOUR: 'it returns false'. Refute it at one input. -/
def fnZigZagWrong : ChangeSpec := { name := "fnZigZag", fn := fun _ => fun
  | [d] => { results := [.lit (.bool false)], args := [d] }
  | _ => none }
def FnZigZagWrongFalsely : Prop := fnZigZagRow.holds Try.pinned (OpenSpec.ofChange fnZigZagWrong)

/-- 'laws.FnSeqLength': WHATEVER THE INPUT: true; the input reads as it did. -/
def fnSeqLengthSpec : ChangeSpec := { name := "fnSeqLength", fn := fun _ => fun
  | [d] => { results := [.lit (.bool true)], args := [d] }
  | _ => none }
def fnSeqLengthRow : OpenClaim := { program := "ytciblaabghiefaa", sum := "d5e12c477675bb49b897d71d379f2dd35aa007cb942b849e35442ff93a998a98", func := "pub-alidade/laws.FnSeqLength", spec := "fnSeqLength", recurses := true, loops := true, apart := false }
def FnSeqLengthSaid : Prop := fnSeqLengthRow.holds Try.pinned (OpenSpec.ofChange fnSeqLengthSpec)

/-- ITS FALSE NEIGHBOUR: 'it returns false'. Refute it at one input. -/
def fnSeqLengthWrong : ChangeSpec := { name := "fnSeqLength", fn := fun _ => fun
  | [d] => { results := [.lit (.bool false)], args := [d] }
  | _ => none }
def FnSeqLengthWrongFalsely : Prop := fnSeqLengthRow.holds Try.pinned (OpenSpec.ofChange fnSeqLengthWrong)

/-- 'laws.FnXYAdd': WHATEVER THE INPUT: true; the input reads as it did. -/
def fnXYAddSpec : ChangeSpec := { name := "fnXYAdd", fn := fun _ => fun
  | [d1, d2] => { results := [.lit (.bool true)], args := [d1, d2] }
  | _ => none }
def fnXYAddRow : OpenClaim := { program := "ytciblaabghiefaa", sum := "d5e12c477675bb49b897d71d379f2dd35aa007cb942b849e35442ff93a998a98", func := "pub-alidade/laws.FnXYAdd", spec := "fnXYAdd", inPlace := ["math.archTrunc", "math.Float64bits", "math.Float64frombits"], apart := false }
def FnXYAddSaid : Prop := fnXYAddRow.holds Try.pinned (OpenSpec.ofChange fnXYAddSpec)

/-- ITS FALSE NEIGHBOUR: 'it returns false'. Refute it at one input. -/
def fnXYAddWrong : ChangeSpec := { name := "fnXYAdd", fn := fun _ => fun
  | [d1, d2] => { results := [.lit (.bool false)], args := [d1, d2] }
  | _ => none }
def FnXYAddWrongFalsely : Prop := fnXYAddRow.holds Try.pinned (OpenSpec.ofChange fnXYAddWrong)

/-- 'laws.FnRadialLess': WHATEVER THE INPUT: true; the input reads as it did. -/
def fnRadialLessSpec : ChangeSpec := { name := "fnRadialLess", fn := fun _ => fun
  | [d1, d2] => { results := [.lit (.bool true)], args := [d1, d2] }
  | _ => none }
def fnRadialLessRow : OpenClaim := { program := "ytciblaabghiefaa", sum := "d5e12c477675bb49b897d71d379f2dd35aa007cb942b849e35442ff93a998a98", func := "pub-alidade/laws.FnRadialLess", spec := "fnRadialLess", recurses := true, apart := false }
def FnRadialLessSaid : Prop := fnRadialLessRow.holds Try.pinned (OpenSpec.ofChange fnRadialLessSpec)

/-- ITS FALSE NEIGHBOUR: 'it returns false'. Refute it at one input. -/
def fnRadialLessWrong : ChangeSpec := { name := "fnRadialLess", fn := fun _ => fun
  | [d1, d2] => { results := [.lit (.bool false)], args := [d1, d2] }
  | _ => none }
def FnRadialLessWrongFalsely : Prop := fnRadialLessRow.holds Try.pinned (OpenSpec.ofChange fnRadialLessWrong)

/-- 'laws.FnMatches': WHATEVER THE INPUT: true; the input reads as it did. -/
def fnMatchesSpec : ChangeSpec := { name := "fnMatches", fn := fun _ => fun
  | [d1, d2] => { results := [.lit (.bool true)], args := [d1, d2] }
  | _ => none }
def fnMatchesRow : OpenClaim := { program := "ytciblaabghiefaa", sum := "d5e12c477675bb49b897d71d379f2dd35aa007cb942b849e35442ff93a998a98", func := "pub-alidade/laws.FnMatches", spec := "fnMatches", apart := false }
def FnMatchesSaid : Prop := fnMatchesRow.holds Try.pinned (OpenSpec.ofChange fnMatchesSpec)

/-- ITS FALSE NEIGHBOUR: 'it returns false'. Refute it at one input. -/
def fnMatchesWrong : ChangeSpec := { name := "fnMatches", fn := fun _ => fun
  | [d1, d2] => { results := [.lit (.bool false)], args := [d1, d2] }
  | _ => none }
def FnMatchesWrongFalsely : Prop := fnMatchesRow.holds Try.pinned (OpenSpec.ofChange fnMatchesWrong)

/-- 'laws.FnReadVarint': WHATEVER THE INPUT: true; the input reads as it did. -/
def fnReadVarintSpec : ChangeSpec := { name := "fnReadVarint", fn := fun _ => fun
  | [d] => { results := [.lit (.bool true)], args := [d] }
  | _ => none }
def fnReadVarintRow : OpenClaim := { program := "ytciblaabghiefaa", sum := "d5e12c477675bb49b897d71d379f2dd35aa007cb942b849e35442ff93a998a98", func := "pub-alidade/laws.FnReadVarint", spec := "fnReadVarint", apart := false }
def FnReadVarintSaid : Prop := fnReadVarintRow.holds Try.pinned (OpenSpec.ofChange fnReadVarintSpec)

/-- ITS FALSE NEIGHBOUR: 'it returns false'. Refute it at one input. -/
def fnReadVarintWrong : ChangeSpec := { name := "fnReadVarint", fn := fun _ => fun
  | [d] => { results := [.lit (.bool false)], args := [d] }
  | _ => none }
def FnReadVarintWrongFalsely : Prop := fnReadVarintRow.holds Try.pinned (OpenSpec.ofChange fnReadVarintWrong)

/-- 'laws.FnRingArea': WHATEVER THE INPUT: true; the input reads as it did. -/
def fnRingAreaSpec : ChangeSpec := { name := "fnRingArea", fn := fun _ => fun
  | [d] => { results := [.lit (.bool true)], args := [d] }
  | _ => none }
def fnRingAreaRow : OpenClaim := { program := "ytciblaabghiefaa", sum := "d5e12c477675bb49b897d71d379f2dd35aa007cb942b849e35442ff93a998a98", func := "pub-alidade/laws.FnRingArea", spec := "fnRingArea", unfollowed := true, recurses := true, apart := false }
def FnRingAreaSaid : Prop := fnRingAreaRow.holds Try.pinned (OpenSpec.ofChange fnRingAreaSpec)

/-- ITS FALSE NEIGHBOUR: 'it returns false'. Refute it at one input. -/
def fnRingAreaWrong : ChangeSpec := { name := "fnRingArea", fn := fun _ => fun
  | [d] => { results := [.lit (.bool false)], args := [d] }
  | _ => none }
def FnRingAreaWrongFalsely : Prop := fnRingAreaRow.holds Try.pinned (OpenSpec.ofChange fnRingAreaWrong)

/-- 'laws.FnPlaceDistance': WHATEVER THE INPUT: true; the input reads as it did. -/
def fnPlaceDistanceSpec : ChangeSpec := { name := "fnPlaceDistance", fn := fun _ => fun
  | [d1, d2] => { results := [.lit (.bool true)], args := [d1, d2] }
  | _ => none }
def fnPlaceDistanceRow : OpenClaim := { program := "ytciblaabghiefaa", sum := "d5e12c477675bb49b897d71d379f2dd35aa007cb942b849e35442ff93a998a98", func := "pub-alidade/laws.FnPlaceDistance", spec := "fnPlaceDistance", inPlace := ["math.sqrt"], recurses := true, apart := false }
def FnPlaceDistanceSaid : Prop := fnPlaceDistanceRow.holds Try.pinned (OpenSpec.ofChange fnPlaceDistanceSpec)

/-- ITS FALSE NEIGHBOUR: 'it returns false'. Refute it at one input. -/
def fnPlaceDistanceWrong : ChangeSpec := { name := "fnPlaceDistance", fn := fun _ => fun
  | [d1, d2] => { results := [.lit (.bool false)], args := [d1, d2] }
  | _ => none }
def FnPlaceDistanceWrongFalsely : Prop := fnPlaceDistanceRow.holds Try.pinned (OpenSpec.ofChange fnPlaceDistanceWrong)

/-- 'laws.FnEnvExpandLeast': WHATEVER THE INPUT: true; the input reads as it did. -/
def fnEnvExpandLeastSpec : ChangeSpec := { name := "fnEnvExpandLeast", fn := fun _ => fun
  | [d1, d2, d3] => { results := [.lit (.bool true)], args := [d1, d2, d3] }
  | _ => none }
def fnEnvExpandLeastRow : OpenClaim := { program := "ytciblaabghiefaa", sum := "d5e12c477675bb49b897d71d379f2dd35aa007cb942b849e35442ff93a998a98", func := "pub-alidade/laws.FnEnvExpandLeast", spec := "fnEnvExpandLeast", inPlace := ["math.Float64bits", "math.Float64frombits"], apart := false }
def FnEnvExpandLeastSaid : Prop := fnEnvExpandLeastRow.holds Try.pinned (OpenSpec.ofChange fnEnvExpandLeastSpec)

/-- ITS FALSE NEIGHBOUR: 'it returns false'. Refute it at one input. -/
def fnEnvExpandLeastWrong : ChangeSpec := { name := "fnEnvExpandLeast", fn := fun _ => fun
  | [d1, d2, d3] => { results := [.lit (.bool false)], args := [d1, d2, d3] }
  | _ => none }
def FnEnvExpandLeastWrongFalsely : Prop := fnEnvExpandLeastRow.holds Try.pinned (OpenSpec.ofChange fnEnvExpandLeastWrong)

/-- 'laws.FnNewSequenceGet': WHATEVER THE INPUT: true; the input reads as it did. -/
def fnNewSequenceGetSpec : ChangeSpec := { name := "fnNewSequenceGet", fn := fun _ => fun
  | [d1, d2, d3] => { results := [.lit (.bool true)], args := [d1, d2, d3] }
  | _ => none }
def fnNewSequenceGetRow : OpenClaim := { program := "ytciblaabghiefaa", sum := "d5e12c477675bb49b897d71d379f2dd35aa007cb942b849e35442ff93a998a98", func := "pub-alidade/laws.FnNewSequenceGet", spec := "fnNewSequenceGet", inPlace := ["math.Float64bits"], unfollowed := true, recurses := true, apart := false }
def FnNewSequenceGetSaid : Prop := fnNewSequenceGetRow.holds Try.pinned (OpenSpec.ofChange fnNewSequenceGetSpec)

/-- ITS FALSE NEIGHBOUR: 'it returns false'. Refute it at one input. -/
def fnNewSequenceGetWrong : ChangeSpec := { name := "fnNewSequenceGet", fn := fun _ => fun
  | [d1, d2, d3] => { results := [.lit (.bool false)], args := [d1, d2, d3] }
  | _ => none }
def FnNewSequenceGetWrongFalsely : Prop := fnNewSequenceGetRow.holds Try.pinned (OpenSpec.ofChange fnNewSequenceGetWrong)

/-- 'laws.FnEnvValidate': WHATEVER THE INPUT: true; the input reads as it did. -/
def fnEnvValidateSpec : ChangeSpec := { name := "fnEnvValidate", fn := fun _ => fun
  | [d] => { results := [.lit (.bool true)], args := [d] }
  | _ => none }
def fnEnvValidateRow : OpenClaim := { program := "ytciblaabghiefaa", sum := "d5e12c477675bb49b897d71d379f2dd35aa007cb942b849e35442ff93a998a98", func := "pub-alidade/laws.FnEnvValidate", spec := "fnEnvValidate", inPlace := ["math.Float64bits", "math.Float64frombits"], apart := false }
def FnEnvValidateSaid : Prop := fnEnvValidateRow.holds Try.pinned (OpenSpec.ofChange fnEnvValidateSpec)

/-- ITS FALSE NEIGHBOUR: 'it returns false'. Refute it at one input. -/
def fnEnvValidateWrong : ChangeSpec := { name := "fnEnvValidate", fn := fun _ => fun
  | [d] => { results := [.lit (.bool false)], args := [d] }
  | _ => none }
def FnEnvValidateWrongFalsely : Prop := fnEnvValidateRow.holds Try.pinned (OpenSpec.ofChange fnEnvValidateWrong)

/-- 'laws.FnPointValid': WHATEVER THE INPUT: true; the input reads as it did. -/
def fnPointValidSpec : ChangeSpec := { name := "fnPointValid", fn := fun _ => fun
  | [d1, d2] => { results := [.lit (.bool true)], args := [d1, d2] }
  | _ => none }
def fnPointValidRow : OpenClaim := { program := "ytciblaabghiefaa", sum := "d5e12c477675bb49b897d71d379f2dd35aa007cb942b849e35442ff93a998a98", func := "pub-alidade/laws.FnPointValid", spec := "fnPointValid", inPlace := ["math.Float64bits", "math.Float64frombits"], apart := false }
def FnPointValidSaid : Prop := fnPointValidRow.holds Try.pinned (OpenSpec.ofChange fnPointValidSpec)

/-- ITS FALSE NEIGHBOUR: 'it returns false'. Refute it at one input. -/
def fnPointValidWrong : ChangeSpec := { name := "fnPointValid", fn := fun _ => fun
  | [d1, d2] => { results := [.lit (.bool false)], args := [d1, d2] }
  | _ => none }
def FnPointValidWrongFalsely : Prop := fnPointValidRow.holds Try.pinned (OpenSpec.ofChange fnPointValidWrong)

/- THE SECOND FORM. 'bulk': how many values and letters a reading holds, each counted each time it is reached (what is shared counts as often as it is met; a slice's spare places count too). A statement '..UptoSaid' is the law's where the arguments, and the package variables that the reading takes, are together of bulk at most 1048576: NARROWER than '..Said'. Prove '..Said' where nothing that the law and all that it calls make is longer than what came in: it says more and counts as full. Else prove '..UptoSaid'. A law counts once. -/
mutual
def uptoBulk {H : Type} : DataW H → Nat
  | .lit (.string bytes) => bytes.length + 1
  | .lit _ => 1
  | .nil => 1
  | .ptr d => uptoBulk d + 1
  | .slice elems spare => uptoBulkAll elems + uptoBulkAll spare + 1
  | .agg parts => uptoBulkAll parts + 1
  | .iface _ d => uptoBulk d + 1
  | .map entries => uptoBulkEntries entries + 1
  | .held _ => 1
def uptoBulkAll {H : Type} : List (DataW H) → Nat
  | [] => 0
  | d :: r => uptoBulk d + uptoBulkAll r
def uptoBulkEntries {H : Type} : List (Lit × DataW H) → Nat
  | [] => 0
  | x :: r => uptoBulkEntry x + uptoBulkEntries r
def uptoBulkEntry {H : Type} : Lit × DataW H → Nat
  | (.string bytes, d) => bytes.length + uptoBulk d + 1
  | (_, d) => uptoBulk d + 1
 end
def uptoSmall : (H : Type) → List (DataW H) → Bool := fun _ ds => decide (uptoBulkAll ds ≤ 1048576)
def OpenSpec.upto (s : _root_.Go.ChangeSpec) : _root_.Go.OpenSpec := { _root_.Go.OpenSpec.ofChange s with cond := some uptoSmall }

/-- 'laws.FnZigZag', WHERE WHAT IT READS IS OF BULK AT MOST 1048576: true; the input reads as it did. -/
def fnZigZagUptoRow : OpenClaim := { program := "ytciblaabghiefaa", sum := "d5e12c477675bb49b897d71d379f2dd35aa007cb942b849e35442ff93a998a98", func := "pub-alidade/laws.FnZigZag", spec := "fnZigZag", apart := false, narrowed := true }
def FnZigZagUptoSaid : Prop := fnZigZagUptoRow.holds Try.pinned (OpenSpec.upto fnZigZagSpec)

/-- 'laws.FnSeqLength', WHERE WHAT IT READS IS OF BULK AT MOST 1048576: true; the input reads as it did. -/
def fnSeqLengthUptoRow : OpenClaim := { program := "ytciblaabghiefaa", sum := "d5e12c477675bb49b897d71d379f2dd35aa007cb942b849e35442ff93a998a98", func := "pub-alidade/laws.FnSeqLength", spec := "fnSeqLength", recurses := true, loops := true, apart := false, narrowed := true }
def FnSeqLengthUptoSaid : Prop := fnSeqLengthUptoRow.holds Try.pinned (OpenSpec.upto fnSeqLengthSpec)

/-- 'laws.FnXYAdd', WHERE WHAT IT READS IS OF BULK AT MOST 1048576: true; the input reads as it did. -/
def fnXYAddUptoRow : OpenClaim := { program := "ytciblaabghiefaa", sum := "d5e12c477675bb49b897d71d379f2dd35aa007cb942b849e35442ff93a998a98", func := "pub-alidade/laws.FnXYAdd", spec := "fnXYAdd", inPlace := ["math.archTrunc", "math.Float64bits", "math.Float64frombits"], apart := false, narrowed := true }
def FnXYAddUptoSaid : Prop := fnXYAddUptoRow.holds Try.pinned (OpenSpec.upto fnXYAddSpec)

/-- 'laws.FnRadialLess', WHERE WHAT IT READS IS OF BULK AT MOST 1048576: true; the input reads as it did. -/
def fnRadialLessUptoRow : OpenClaim := { program := "ytciblaabghiefaa", sum := "d5e12c477675bb49b897d71d379f2dd35aa007cb942b849e35442ff93a998a98", func := "pub-alidade/laws.FnRadialLess", spec := "fnRadialLess", recurses := true, apart := false, narrowed := true }
def FnRadialLessUptoSaid : Prop := fnRadialLessUptoRow.holds Try.pinned (OpenSpec.upto fnRadialLessSpec)

/-- 'laws.FnMatches', WHERE WHAT IT READS IS OF BULK AT MOST 1048576: true; the input reads as it did. -/
def fnMatchesUptoRow : OpenClaim := { program := "ytciblaabghiefaa", sum := "d5e12c477675bb49b897d71d379f2dd35aa007cb942b849e35442ff93a998a98", func := "pub-alidade/laws.FnMatches", spec := "fnMatches", apart := false, narrowed := true }
def FnMatchesUptoSaid : Prop := fnMatchesUptoRow.holds Try.pinned (OpenSpec.upto fnMatchesSpec)

/-- 'laws.FnReadVarint', WHERE WHAT IT READS IS OF BULK AT MOST 1048576: true; the input reads as it did. -/
def fnReadVarintUptoRow : OpenClaim := { program := "ytciblaabghiefaa", sum := "d5e12c477675bb49b897d71d379f2dd35aa007cb942b849e35442ff93a998a98", func := "pub-alidade/laws.FnReadVarint", spec := "fnReadVarint", apart := false, narrowed := true }
def FnReadVarintUptoSaid : Prop := fnReadVarintUptoRow.holds Try.pinned (OpenSpec.upto fnReadVarintSpec)

/-- 'laws.FnRingArea', WHERE WHAT IT READS IS OF BULK AT MOST 1048576: true; the input reads as it did. -/
def fnRingAreaUptoRow : OpenClaim := { program := "ytciblaabghiefaa", sum := "d5e12c477675bb49b897d71d379f2dd35aa007cb942b849e35442ff93a998a98", func := "pub-alidade/laws.FnRingArea", spec := "fnRingArea", unfollowed := true, recurses := true, apart := false, narrowed := true }
def FnRingAreaUptoSaid : Prop := fnRingAreaUptoRow.holds Try.pinned (OpenSpec.upto fnRingAreaSpec)

/-- 'laws.FnPlaceDistance', WHERE WHAT IT READS IS OF BULK AT MOST 1048576: true; the input reads as it did. -/
def fnPlaceDistanceUptoRow : OpenClaim := { program := "ytciblaabghiefaa", sum := "d5e12c477675bb49b897d71d379f2dd35aa007cb942b849e35442ff93a998a98", func := "pub-alidade/laws.FnPlaceDistance", spec := "fnPlaceDistance", inPlace := ["math.sqrt"], recurses := true, apart := false, narrowed := true }
def FnPlaceDistanceUptoSaid : Prop := fnPlaceDistanceUptoRow.holds Try.pinned (OpenSpec.upto fnPlaceDistanceSpec)

/-- 'laws.FnEnvExpandLeast', WHERE WHAT IT READS IS OF BULK AT MOST 1048576: true; the input reads as it did. -/
def fnEnvExpandLeastUptoRow : OpenClaim := { program := "ytciblaabghiefaa", sum := "d5e12c477675bb49b897d71d379f2dd35aa007cb942b849e35442ff93a998a98", func := "pub-alidade/laws.FnEnvExpandLeast", spec := "fnEnvExpandLeast", inPlace := ["math.Float64bits", "math.Float64frombits"], apart := false, narrowed := true }
def FnEnvExpandLeastUptoSaid : Prop := fnEnvExpandLeastUptoRow.holds Try.pinned (OpenSpec.upto fnEnvExpandLeastSpec)

/-- 'laws.FnNewSequenceGet', WHERE WHAT IT READS IS OF BULK AT MOST 1048576: true; the input reads as it did. -/
def fnNewSequenceGetUptoRow : OpenClaim := { program := "ytciblaabghiefaa", sum := "d5e12c477675bb49b897d71d379f2dd35aa007cb942b849e35442ff93a998a98", func := "pub-alidade/laws.FnNewSequenceGet", spec := "fnNewSequenceGet", inPlace := ["math.Float64bits"], unfollowed := true, recurses := true, apart := false, narrowed := true }
def FnNewSequenceGetUptoSaid : Prop := fnNewSequenceGetUptoRow.holds Try.pinned (OpenSpec.upto fnNewSequenceGetSpec)

/-- 'laws.FnEnvValidate', WHERE WHAT IT READS IS OF BULK AT MOST 1048576: true; the input reads as it did. -/
def fnEnvValidateUptoRow : OpenClaim := { program := "ytciblaabghiefaa", sum := "d5e12c477675bb49b897d71d379f2dd35aa007cb942b849e35442ff93a998a98", func := "pub-alidade/laws.FnEnvValidate", spec := "fnEnvValidate", inPlace := ["math.Float64bits", "math.Float64frombits"], apart := false, narrowed := true }
def FnEnvValidateUptoSaid : Prop := fnEnvValidateUptoRow.holds Try.pinned (OpenSpec.upto fnEnvValidateSpec)

/-- 'laws.FnPointValid', WHERE WHAT IT READS IS OF BULK AT MOST 1048576: true; the input reads as it did. -/
def fnPointValidUptoRow : OpenClaim := { program := "ytciblaabghiefaa", sum := "d5e12c477675bb49b897d71d379f2dd35aa007cb942b849e35442ff93a998a98", func := "pub-alidade/laws.FnPointValid", spec := "fnPointValid", inPlace := ["math.Float64bits", "math.Float64frombits"], apart := false, narrowed := true }
def FnPointValidUptoSaid : Prop := fnPointValidUptoRow.holds Try.pinned (OpenSpec.upto fnPointValidSpec)

end Rows
end Go.Proofs.Ytciblaabghiefaa

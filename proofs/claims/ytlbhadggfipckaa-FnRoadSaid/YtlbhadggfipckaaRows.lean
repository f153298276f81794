/-
  NARROWER THAN 'FOR EVERY INPUT', by the rows' own cells (each row's printed sentence says how): FnFind: loops · FnFormat: loops · FnBroken: loops · FnParse: loops · FnRoad: loops.
  DERIVED. THE GIVEN ROWS OF THIS SEAT. 7 by the template 'for every input the law returns true; each argument reads behind the call as it read before'; 0 by the template 'total and deterministic' (their statements: YtlbhadggfipckaaTotals.lean).
  GIVEN WITH THE SEED: the statements are not yours to turn. If you find one false, say at which input.
  Laid BY PROGRAM, IN A SANDBOX (cutbox-rows.mjs): the forced cells as the released guide's own fill.sh prints them over the translation edaac96278f9da70… (all of the seat's roots in one cut). By AI agents, Wed Nov 11 2026. No macro, syntax, notation, axiom, sorry.
-/
import Derived.Test.YtlbhadggfipckaaChecked
import GoSem.Claim
import GoSem.ClaimJoined
import GoSem.ClaimMapViews
import Derived.JoinedTies
import Derived.KernelRfl
namespace Go.Proofs.Ytlbhadggfipckaa
/- THE CELL 'sum', in the pinned program and in every row, IS THE sha256 OF THE DUMP (.gsa) THAT YtlbhadggfipckaaProg.lean LOADS. Nothing in Lean hashes anything: it is a label: what it is worth is what the hold of that sum in a sandbox is worth. -/
noncomputable def Try.pinned : Pinned := { name := "ytlbhadggfipckaa", sum := "edaac96278f9da70dec26ee3eb4720a1792b34419dc9014fb0ecf031d13759cb", checked := Try.checked }
namespace Rows
def none {H : Type} : Left H := { results := [], args := [] }

/-- 'laws.FnValues': WHATEVER THE INPUT: true; the input reads as it did. -/
def fnValuesSpec : ChangeSpec := { name := "fnValues", fn := fun _ => fun
  | [d1, d2] => { results := [.lit (.bool true)], args := [d1, d2] }
  | _ => none }
def fnValuesRow : OpenClaim := { program := "ytlbhadggfipckaa", sum := "edaac96278f9da70dec26ee3eb4720a1792b34419dc9014fb0ecf031d13759cb", func := "devicetrees/laws.FnValues", spec := "fnValues", unfollowed := true, recurses := true, apart := false }
def FnValuesSaid : Prop := fnValuesRow.holds Try.pinned (OpenSpec.ofChange fnValuesSpec)

/-- ITS FALSE NEIGHBOUR: 'it returns false'. Refute it at one input. -/
def fnValuesWrong : ChangeSpec := { name := "fnValues", fn := fun _ => fun
  | [d1, d2] => { results := [.lit (.bool false)], args := [d1, d2] }
  | _ => none }
def FnValuesWrongFalsely : Prop := fnValuesRow.holds Try.pinned (OpenSpec.ofChange fnValuesWrong)

/-- 'laws.FnText': WHATEVER THE INPUT: true; the input reads as it did. -/
def fnTextSpec : ChangeSpec := { name := "fnText", fn := fun _ => fun
  | [d] => { results := [.lit (.bool true)], args := [d] }
  | _ => none }
def fnTextRow : OpenClaim := { program := "ytlbhadggfipckaa", sum := "edaac96278f9da70dec26ee3eb4720a1792b34419dc9014fb0ecf031d13759cb", func := "devicetrees/laws.FnText", spec := "fnText", unfollowed := true, recurses := true, apart := false }
def FnTextSaid : Prop := fnTextRow.holds Try.pinned (OpenSpec.ofChange fnTextSpec)

/-- ITS FALSE NEIGHBOUR: 'it returns false'. Refute it at one input. -/
def fnTextWrong : ChangeSpec := { name := "fnText", fn := fun _ => fun
  | [d] => { results := [.lit (.bool false)], args := [d] }
  | _ => none }
def FnTextWrongFalsely : Prop := fnTextRow.holds Try.pinned (OpenSpec.ofChange fnTextWrong)

/-- 'laws.FnFind': WHATEVER THE INPUT: true; the input reads as it did. -/
def fnFindSpec : ChangeSpec := { name := "fnFind", fn := fun _ => fun
  | [d1, d2] => { results := [.lit (.bool true)], args := [d1, d2] }
  | _ => none }
def fnFindRow : OpenClaim := { program := "ytlbhadggfipckaa", sum := "edaac96278f9da70dec26ee3eb4720a1792b34419dc9014fb0ecf031d13759cb", func := "devicetrees/laws.FnFind", spec := "fnFind", unfollowed := true, recurses := true, loops := true, apart := false }
def FnFindSaid : Prop := fnFindRow.holds Try.pinned (OpenSpec.ofChange fnFindSpec)

/-- ITS FALSE NEIGHBOUR: 'it returns false'. Refute it at one input. -/
def fnFindWrong : ChangeSpec := { name := "fnFind", fn := fun _ => fun
  | [d1, d2] => { results := [.lit (.bool false)], args := [d1, d2] }
  | _ => none }
def FnFindWrongFalsely : Prop := fnFindRow.holds Try.pinned (OpenSpec.ofChange fnFindWrong)

/-- 'laws.FnFormat': WHATEVER THE INPUT: true; the input reads as it did. -/
def fnFormatSpec : ChangeSpec := { name := "fnFormat", fn := fun _ => fun
  | [d] => { results := [.lit (.bool true)], args := [d] }
  | _ => none }
def fnFormatRow : OpenClaim := { program := "ytlbhadggfipckaa", sum := "edaac96278f9da70dec26ee3eb4720a1792b34419dc9014fb0ecf031d13759cb", func := "devicetrees/laws.FnFormat", spec := "fnFormat", unfollowed := true, recurses := true, loops := true, apart := false }
def FnFormatSaid : Prop := fnFormatRow.holds Try.pinned (OpenSpec.ofChange fnFormatSpec)

/-- ITS FALSE NEIGHBOUR: 'it returns false'. Refute it at one input. -/
def fnFormatWrong : ChangeSpec := { name := "fnFormat", fn := fun _ => fun
  | [d] => { results := [.lit (.bool false)], args := [d] }
  | _ => none }
def FnFormatWrongFalsely : Prop := fnFormatRow.holds Try.pinned (OpenSpec.ofChange fnFormatWrong)

/-- 'laws.FnBroken': WHATEVER THE INPUT: true; the input reads as it did. -/
def fnBrokenSpec : ChangeSpec := { name := "fnBroken", fn := fun _ => fun
  | [d1, d2, d3] => { results := [.lit (.bool true)], args := [d1, d2, d3] }
  | _ => none }
def fnBrokenRow : OpenClaim := { program := "ytlbhadggfipckaa", sum := "edaac96278f9da70dec26ee3eb4720a1792b34419dc9014fb0ecf031d13759cb", func := "devicetrees/laws.FnBroken", spec := "fnBroken", unfollowed := true, recurses := true, loops := true, apart := false }
def FnBrokenSaid : Prop := fnBrokenRow.holds Try.pinned (OpenSpec.ofChange fnBrokenSpec)

/-- ITS FALSE NEIGHBOUR: 'it returns false'. Refute it at one input. -/
def fnBrokenWrong : ChangeSpec := { name := "fnBroken", fn := fun _ => fun
  | [d1, d2, d3] => { results := [.lit (.bool false)], args := [d1, d2, d3] }
  | _ => none }
def FnBrokenWrongFalsely : Prop := fnBrokenRow.holds Try.pinned (OpenSpec.ofChange fnBrokenWrong)

/-- 'laws.FnParse': WHATEVER THE INPUT: true; the input reads as it did. -/
def fnParseSpec : ChangeSpec := { name := "fnParse", fn := fun _ => fun
  | [d1, d2] => { results := [.lit (.bool true)], args := [d1, d2] }
  | _ => none }
def fnParseRow : OpenClaim := { program := "ytlbhadggfipckaa", sum := "edaac96278f9da70dec26ee3eb4720a1792b34419dc9014fb0ecf031d13759cb", func := "devicetrees/laws.FnParse", spec := "fnParse", unfollowed := true, recurses := true, loops := true, apart := false }
def FnParseSaid : Prop := fnParseRow.holds Try.pinned (OpenSpec.ofChange fnParseSpec)

/-- ITS FALSE NEIGHBOUR: 'it returns false'. Refute it at one input. -/
def fnParseWrong : ChangeSpec := { name := "fnParse", fn := fun _ => fun
  | [d1, d2] => { results := [.lit (.bool false)], args := [d1, d2] }
  | _ => none }
def FnParseWrongFalsely : Prop := fnParseRow.holds Try.pinned (OpenSpec.ofChange fnParseWrong)

/-- 'laws.FnRoad': WHATEVER THE INPUT: true; the input reads as it did. -/
def fnRoadSpec : ChangeSpec := { name := "fnRoad", fn := fun _ => fun
  | [d] => { results := [.lit (.bool true)], args := [d] }
  | _ => none }
def fnRoadRow : OpenClaim := { program := "ytlbhadggfipckaa", sum := "edaac96278f9da70dec26ee3eb4720a1792b34419dc9014fb0ecf031d13759cb", func := "devicetrees/laws.FnRoad", spec := "fnRoad", unfollowed := true, recurses := true, loops := true, apart := false }
def FnRoadSaid : Prop := fnRoadRow.holds Try.pinned (OpenSpec.ofChange fnRoadSpec)

/-- ITS FALSE NEIGHBOUR: 'it returns false'. Refute it at one input. -/
def fnRoadWrong : ChangeSpec := { name := "fnRoad", fn := fun _ => fun
  | [d] => { results := [.lit (.bool false)], args := [d] }
  | _ => none }
def FnRoadWrongFalsely : Prop := fnRoadRow.holds Try.pinned (OpenSpec.ofChange fnRoadWrong)

/- THE SECOND FORM. 'bulk': how many values and letters a reading holds, each counted each time it is reached (what is shared counts as often as it is met; a slice's spare places count too). A statement '..UptoSaid' is the law's where the arguments, and the package variables that the reading takes, are together of bulk at most 1048576: NARROWER than '..Said'. Prove '..Said' where nothing that the law and all that it calls make is longer than what came in: it says more and counts as full. Else prove '..UptoSaid'. A law counts once. -/
mutual
def uptoBulk {H : Type} : DataW H → Nat
  | .lit (.string bytes) => bytes.length + 1
  | .lit _ => 1
  | .nil => 1
  | .ptr d => uptoBulk d + 1
  | .slice elems spare => uptoBulkAll elems + uptoBulkAll spare + 1
  | .agg parts => uptoBulkAll parts + 1
  | .iface _ d => uptoBulk d + 1
  | .map entries => uptoBulkEntries entries + 1
  | .held _ => 1
def uptoBulkAll {H : Type} : List (DataW H) → Nat
  | [] => 0
  | d :: r => uptoBulk d + uptoBulkAll r
def uptoBulkEntries {H : Type} : List (Lit × DataW H) → Nat
  | [] => 0
  | x :: r => uptoBulkEntry x + uptoBulkEntries r
def uptoBulkEntry {H : Type} : Lit × DataW H → Nat
  | (.string bytes, d) => bytes.length + uptoBulk d + 1
  | (_, d) => uptoBulk d + 1
 end
def uptoSmall : (H : Type) → List (DataW H) → Bool := fun _ ds => decide (uptoBulkAll ds ≤ 1048576)
def OpenSpec.upto (s : _root_.Go.ChangeSpec) : _root_.Go.OpenSpec := { _root_.Go.OpenSpec.ofChange s with cond := some uptoSmall }

/-- 'laws.FnValues', WHERE WHAT IT READS IS OF BULK AT MOST 1048576: true; the input reads as it did. -/
def fnValuesUptoRow : OpenClaim := { program := "ytlbhadggfipckaa", sum := "edaac96278f9da70dec26ee3eb4720a1792b34419dc9014fb0ecf031d13759cb", func := "devicetrees/laws.FnValues", spec := "fnValues", unfollowed := true, recurses := true, apart := false, narrowed := true }
def FnValuesUptoSaid : Prop := fnValuesUptoRow.holds Try.pinned (OpenSpec.upto fnValuesSpec)

/-- 'laws.FnText', WHERE WHAT IT READS IS OF BULK AT MOST 1048576: true; the input reads as it did. -/
def fnTextUptoRow : OpenClaim := { program := "ytlbhadggfipckaa", sum := "edaac96278f9da70dec26ee3eb4720a1792b34419dc9014fb0ecf031d13759cb", func := "devicetrees/laws.FnText", spec := "fnText", unfollowed := true, recurses := true, apart := false, narrowed := true }
def FnTextUptoSaid : Prop := fnTextUptoRow.holds Try.pinned (OpenSpec.upto fnTextSpec)

/-- 'laws.FnFind', WHERE WHAT IT READS IS OF BULK AT MOST 1048576: true; the input reads as it did. -/
def fnFindUptoRow : OpenClaim := { program := "ytlbhadggfipckaa", sum := "edaac96278f9da70dec26ee3eb4720a1792b34419dc9014fb0ecf031d13759cb", func := "devicetrees/laws.FnFind", spec := "fnFind", unfollowed := true, recurses := true, loops := true, apart := false, narrowed := true }
def FnFindUptoSaid : Prop := fnFindUptoRow.holds Try.pinned (OpenSpec.upto fnFindSpec)

/-- 'laws.FnFormat', WHERE WHAT IT READS IS OF BULK AT MOST 1048576: true; the input reads as it did. -/
def fnFormatUptoRow : OpenClaim := { program := "ytlbhadggfipckaa", sum := "edaac96278f9da70dec26ee3eb4720a1792b34419dc9014fb0ecf031d13759cb", func := "devicetrees/laws.FnFormat", spec := "fnFormat", unfollowed := true, recurses := true, loops := true, apart := false, narrowed := true }
def FnFormatUptoSaid : Prop := fnFormatUptoRow.holds Try.pinned (OpenSpec.upto fnFormatSpec)

/-- 'laws.FnBroken', WHERE WHAT IT READS IS OF BULK AT MOST 1048576: true; the input reads as it did. -/
def fnBrokenUptoRow : OpenClaim := { program := "ytlbhadggfipckaa", sum := "edaac96278f9da70dec26ee3eb4720a1792b34419dc9014fb0ecf031d13759cb", func := "devicetrees/laws.FnBroken", spec := "fnBroken", unfollowed := true, recurses := true, loops := true, apart := false, narrowed := true }
def FnBrokenUptoSaid : Prop := fnBrokenUptoRow.holds Try.pinned (OpenSpec.upto fnBrokenSpec)

/-- 'laws.FnParse', WHERE WHAT IT READS IS OF BULK AT MOST 1048576: true; the input reads as it did. -/
def fnParseUptoRow : OpenClaim := { program := "ytlbhadggfipckaa", sum := "edaac96278f9da70dec26ee3eb4720a1792b34419dc9014fb0ecf031d13759cb", func := "devicetrees/laws.FnParse", spec := "fnParse", unfollowed := true, recurses := true, loops := true, apart := false, narrowed := true }
def FnParseUptoSaid : Prop := fnParseUptoRow.holds Try.pinned (OpenSpec.upto fnParseSpec)

/-- 'laws.FnRoad', WHERE WHAT IT READS IS OF BULK AT MOST 1048576: true; the input reads as it did. -/
def fnRoadUptoRow : OpenClaim := { program := "ytlbhadggfipckaa", sum := "edaac96278f9da70dec26ee3eb4720a1792b34419dc9014fb0ecf031d13759cb", func := "devicetrees/laws.FnRoad", spec := "fnRoad", unfollowed := true, recurses := true, loops := true, apart := false, narrowed := true }
def FnRoadUptoSaid : Prop := fnRoadUptoRow.holds Try.pinned (OpenSpec.upto fnRoadSpec)

end Rows
end Go.Proofs.Ytlbhadggfipckaa

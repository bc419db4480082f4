/-
  NARROWER THAN 'FOR EVERY INPUT', by the rows' own cells (each row's printed sentence says how): FnConvertFractions: laid · FnConvertRune: laid · FnConvertThere: laid.
  DERIVED. THE GIVEN ROWS OF THIS SEAT. 3 by the template 'for every input the law returns true; each argument reads behind the call as it read before'; 0 by the template 'total and deterministic' (their statements: YtliopnbkpdfngaaDoorTotals.lean).
  GIVEN WITH THE SEED: the statements are not yours to turn. If you find one false, say at which input.
  Laid BY PROGRAM, IN A SANDBOX (cutbox-rows.mjs): the forced cells as the released guide's own fill.sh prints them over the translation 792064980390a38b… (all of the seat's roots in one cut). By AI agents, Wed Nov 11 2026. No macro, syntax, notation, axiom, sorry.
-/
import Derived.Test.YtliopnbkpdfngaaDoorChecked
import GoSem.Claim
import GoSem.ClaimJoined
import GoSem.ClaimMapViews
import Derived.JoinedTies
import Derived.KernelRfl
namespace Go.Proofs.YtliopnbkpdfngaaDoor
/- THE CELL 'sum', in the pinned program and in every row, IS THE sha256 OF THE DUMP (.gsa) THAT YtliopnbkpdfngaaDoorProg.lean LOADS. Nothing in Lean hashes anything: it is a label: what it is worth is what the hold of that sum in a sandbox is worth. -/
noncomputable def Tryd.pinned : Pinned := { name := "ytliopnbkpdfngaadoor", sum := "792064980390a38ba8a036bb14b46616b1db006ddd5e072c635f370eb976a67c", checked := Tryd.checked }
namespace Rows
def none {H : Type} : Left H := { results := [], args := [] }

/- WHAT THE LISTED PACKAGE-LEVEL VARIABLES READ AS WHEN THE CALL BEGINS. Each datum BY PROGRAM (the guide's laid-datum.mjs) off the statement by which the dump's own 'gosem.cut.vars' lays the variable. In a bare row this is a premise. The card (YtliopnbkpdfngaaDoorCards.lean) ties it to the program's text. -/
def laid_pub_quern_pub_ql_errDivByZero {H : Type} : DataW H := .iface "*errors.errorString" (.ptr (.agg [.lit (.string [100, 105, 118, 105, 115, 105, 111, 110, 32, 98, 121, 32, 122, 101, 114, 111])]))

/-- 'laws.FnConvertFractions': WHATEVER THE INPUT: true; the input reads as it did. -/
def fnConvertFractionsSpec : ChangeSpec := { name := "fnConvertFractions", fn := fun _ => fun
  | [d1, d2] => { results := [.lit (.bool true)], args := [d1, d2] }
  | _ => none }
def fnConvertFractionsRow : OpenClaim := { program := "ytliopnbkpdfngaadoor", sum := "792064980390a38ba8a036bb14b46616b1db006ddd5e072c635f370eb976a67c", func := "pub-quern/laws.FnConvertFractions", spec := "fnConvertFractions", inPlace := ["math.Float64bits", "math.archTrunc", "math.Float64frombits"], named := ["pub-quern/pub/ql.errDivByZero"], apart := false, laid := [("pub-quern/pub/ql.errDivByZero", laid_pub_quern_pub_ql_errDivByZero)] }
def FnConvertFractionsSaid : Prop := fnConvertFractionsRow.holds Tryd.pinned (OpenSpec.ofChange fnConvertFractionsSpec)

/-- ITS FALSE NEIGHBOUR: 'it returns false'. Refute it at one input. -/
def fnConvertFractionsWrong : ChangeSpec := { name := "fnConvertFractions", fn := fun _ => fun
  | [d1, d2] => { results := [.lit (.bool false)], args := [d1, d2] }
  | _ => none }
def FnConvertFractionsWrongFalsely : Prop := fnConvertFractionsRow.holds Tryd.pinned (OpenSpec.ofChange fnConvertFractionsWrong)

/-- 'laws.FnConvertRune': WHATEVER THE INPUT: true; the input reads as it did. -/
def fnConvertRuneSpec : ChangeSpec := { name := "fnConvertRune", fn := fun _ => fun
  | [d] => { results := [.lit (.bool true)], args := [d] }
  | _ => none }
def fnConvertRuneRow : OpenClaim := { program := "ytliopnbkpdfngaadoor", sum := "792064980390a38ba8a036bb14b46616b1db006ddd5e072c635f370eb976a67c", func := "pub-quern/laws.FnConvertRune", spec := "fnConvertRune", inPlace := ["math.Float64bits", "math.archTrunc", "math.Float64frombits"], named := ["pub-quern/pub/ql.errDivByZero"], apart := false, laid := [("pub-quern/pub/ql.errDivByZero", laid_pub_quern_pub_ql_errDivByZero)] }
def FnConvertRuneSaid : Prop := fnConvertRuneRow.holds Tryd.pinned (OpenSpec.ofChange fnConvertRuneSpec)

/-- ITS FALSE NEIGHBOUR: 'it returns false'. Refute it at one input. -/
def fnConvertRuneWrong : ChangeSpec := { name := "fnConvertRune", fn := fun _ => fun
  | [d] => { results := [.lit (.bool false)], args := [d] }
  | _ => none }
def FnConvertRuneWrongFalsely : Prop := fnConvertRuneRow.holds Tryd.pinned (OpenSpec.ofChange fnConvertRuneWrong)

/-- 'laws.FnConvertThere': WHATEVER THE INPUT: true; the input reads as it did. -/
def fnConvertThereSpec : ChangeSpec := { name := "fnConvertThere", fn := fun _ => fun
  | [d1, d2] => { results := [.lit (.bool true)], args := [d1, d2] }
  | _ => none }
def fnConvertThereRow : OpenClaim := { program := "ytliopnbkpdfngaadoor", sum := "792064980390a38ba8a036bb14b46616b1db006ddd5e072c635f370eb976a67c", func := "pub-quern/laws.FnConvertThere", spec := "fnConvertThere", inPlace := ["math.Float64bits", "math.archTrunc", "math.Float64frombits"], named := ["pub-quern/pub/ql.errDivByZero"], apart := false, laid := [("pub-quern/pub/ql.errDivByZero", laid_pub_quern_pub_ql_errDivByZero)] }
def FnConvertThereSaid : Prop := fnConvertThereRow.holds Tryd.pinned (OpenSpec.ofChange fnConvertThereSpec)

/-- ITS FALSE NEIGHBOUR: 'it returns false'. Refute it at one input. -/
def fnConvertThereWrong : ChangeSpec := { name := "fnConvertThere", fn := fun _ => fun
  | [d1, d2] => { results := [.lit (.bool false)], args := [d1, d2] }
  | _ => none }
def FnConvertThereWrongFalsely : Prop := fnConvertThereRow.holds Tryd.pinned (OpenSpec.ofChange fnConvertThereWrong)

/- THE SECOND FORM. 'bulk': how many values and letters a reading holds, each counted each time it is reached (what is shared counts as often as it is met; a slice's spare places count too). A statement '..UptoSaid' is the law's where the arguments, and the package variables that the reading takes, are together of bulk at most 1048576: NARROWER than '..Said'. Prove '..Said' where nothing that the law and all that it calls make is longer than what came in: it says more and counts as full. Else prove '..UptoSaid'. A law counts once. -/
mutual
def uptoBulk {H : Type} : DataW H → Nat
  | .lit (.string bytes) => bytes.length + 1
  | .lit _ => 1
  | .nil => 1
  | .ptr d => uptoBulk d + 1
  | .slice elems spare => uptoBulkAll elems + uptoBulkAll spare + 1
  | .agg parts => uptoBulkAll parts + 1
  | .iface _ d => uptoBulk d + 1
  | .map entries => uptoBulkEntries entries + 1
  | .held _ => 1
def uptoBulkAll {H : Type} : List (DataW H) → Nat
  | [] => 0
  | d :: r => uptoBulk d + uptoBulkAll r
def uptoBulkEntries {H : Type} : List (Lit × DataW H) → Nat
  | [] => 0
  | x :: r => uptoBulkEntry x + uptoBulkEntries r
def uptoBulkEntry {H : Type} : Lit × DataW H → Nat
  | (.string bytes, d) => bytes.length + uptoBulk d + 1
  | (_, d) => uptoBulk d + 1
 end
def uptoSmall : (H : Type) → List (DataW H) → Bool := fun _ ds => decide (uptoBulkAll ds ≤ 1048576)
def OpenSpec.upto (s : _root_.Go.ChangeSpec) : _root_.Go.OpenSpec := { _root_.Go.OpenSpec.ofChange s with cond := some uptoSmall }

/-- 'laws.FnConvertFractions', WHERE WHAT IT READS IS OF BULK AT MOST 1048576: true; the input reads as it did. -/
def fnConvertFractionsUptoRow : OpenClaim := { program := "ytliopnbkpdfngaadoor", sum := "792064980390a38ba8a036bb14b46616b1db006ddd5e072c635f370eb976a67c", func := "pub-quern/laws.FnConvertFractions", spec := "fnConvertFractions", inPlace := ["math.Float64bits", "math.archTrunc", "math.Float64frombits"], named := ["pub-quern/pub/ql.errDivByZero"], apart := false, laid := [("pub-quern/pub/ql.errDivByZero", laid_pub_quern_pub_ql_errDivByZero)], narrowed := true }
def FnConvertFractionsUptoSaid : Prop := fnConvertFractionsUptoRow.holds Tryd.pinned (OpenSpec.upto fnConvertFractionsSpec)

/-- 'laws.FnConvertRune', WHERE WHAT IT READS IS OF BULK AT MOST 1048576: true; the input reads as it did. -/
def fnConvertRuneUptoRow : OpenClaim := { program := "ytliopnbkpdfngaadoor", sum := "792064980390a38ba8a036bb14b46616b1db006ddd5e072c635f370eb976a67c", func := "pub-quern/laws.FnConvertRune", spec := "fnConvertRune", inPlace := ["math.Float64bits", "math.archTrunc", "math.Float64frombits"], named := ["pub-quern/pub/ql.errDivByZero"], apart := false, laid := [("pub-quern/pub/ql.errDivByZero", laid_pub_quern_pub_ql_errDivByZero)], narrowed := true }
def FnConvertRuneUptoSaid : Prop := fnConvertRuneUptoRow.holds Tryd.pinned (OpenSpec.upto fnConvertRuneSpec)

/-- 'laws.FnConvertThere', WHERE WHAT IT READS IS OF BULK AT MOST 1048576: true; the input reads as it did. -/
def fnConvertThereUptoRow : OpenClaim := { program := "ytliopnbkpdfngaadoor", sum := "792064980390a38ba8a036bb14b46616b1db006ddd5e072c635f370eb976a67c", func := "pub-quern/laws.FnConvertThere", spec := "fnConvertThere", inPlace := ["math.Float64bits", "math.archTrunc", "math.Float64frombits"], named := ["pub-quern/pub/ql.errDivByZero"], apart := false, laid := [("pub-quern/pub/ql.errDivByZero", laid_pub_quern_pub_ql_errDivByZero)], narrowed := true }
def FnConvertThereUptoSaid : Prop := fnConvertThereUptoRow.holds Tryd.pinned (OpenSpec.upto fnConvertThereSpec)

end Rows
end Go.Proofs.YtliopnbkpdfngaaDoor

/-
  NARROWER THAN 'FOR EVERY INPUT', by the rows' own cells (each row's printed sentence says how): FnParseReadsTheHexThatIDStringWrites: laid.
  DERIVED. THE GIVEN ROWS OF THIS SEAT. 1 by the template 'for every input the law returns true; each argument reads behind the call as it read before'; 0 by the template 'total and deterministic' (their statements: Qxb6608999aFmtTotals.lean).
  GIVEN WITH THE SEED: the statements are not yours to turn. If you find one false, say at which input.
  Laid BY PROGRAM, IN A SANDBOX (cutbox-rows.mjs): the forced cells as the released guide's own fill.sh prints them over the translation 6cbc9128ba075fff… (all of the seat's roots in one cut). By AI agents, Wed Nov 11 2026. No macro, syntax, notation, axiom, sorry.
-/
import Derived.Test.Qxb6608999aFmtChecked
import GoSem.Claim
import GoSem.ClaimJoined
import GoSem.ClaimMapViews
import Derived.JoinedTies
import Derived.KernelRfl
namespace Go.Proofs.Qxb6608999aFmt
/- THE CELL 'sum', in the pinned program and in every row, IS THE sha256 OF THE DUMP (.gsa) THAT Qxb6608999aFmtProg.lean LOADS. Nothing in Lean hashes anything: it is a label: what it is worth is what the hold of that sum in a sandbox is worth. -/
noncomputable def Tryf.pinned : Pinned := { name := "qxb6608999afmt", sum := "6cbc9128ba075fff37a917b44c3d3cf3b8c544fb906622d9629d2fb5d7eb46cb", checked := Tryf.checked }
namespace Rows
def none {H : Type} : Left H := { results := [], args := [] }

/- WHAT THE LISTED PACKAGE-LEVEL VARIABLES READ AS WHEN THE CALL BEGINS. Each datum BY PROGRAM (the guide's laid-datum.mjs) off the statement by which the dump's own 'gosem.cut.vars' lays the variable. In a bare row this is a premise. The card (Qxb6608999aFmtCards.lean) ties it to the program's text. -/
def laid_io_EOF {H : Type} : DataW H := .iface "*errors.errorString" (.ptr (.agg [.lit (.string [69, 79, 70])]))
def laid_math_big_errNoDigits {H : Type} : DataW H := .iface "*errors.errorString" (.ptr (.agg [.lit (.string [110, 117, 109, 98, 101, 114, 32, 104, 97, 115, 32, 110, 111, 32, 100, 105, 103, 105, 116, 115])]))
def laid_math_big_errInvalSep {H : Type} : DataW H := .iface "*errors.errorString" (.ptr (.agg [.lit (.string [39, 95, 39, 32, 109, 117, 115, 116, 32, 115, 101, 112, 97, 114, 97, 116, 101, 32, 115, 117, 99, 99, 101, 115, 115, 105, 118, 101, 32, 100, 105, 103, 105, 116, 115])]))

/-- 'zzlaws_pkg_sim_b1.FnParseReadsTheHexThatIDStringWrites': WHATEVER THE INPUT: true; the input reads as it did. -/
def fnParseReadsTheHexThatIDStringWritesSpec : ChangeSpec := { name := "fnParseReadsTheHexThatIDStringWrites", fn := fun _ => fun
  | [d1, d2] => { results := [.lit (.bool true)], args := [d1, d2] }
  | _ => none }
def fnParseReadsTheHexThatIDStringWritesRow : OpenClaim := { program := "qxb6608999afmt", sum := "6cbc9128ba075fff37a917b44c3d3cf3b8c544fb906622d9629d2fb5d7eb46cb", func := "example.com/ringwise/ringwise/zzlaws_pkg_sim_b1.FnParseReadsTheHexThatIDStringWrites", spec := "fnParseReadsTheHexThatIDStringWrites", stops := ["fmt.errorf", "fmt.Sprintf"], inPlace := ["fmt.Sprintf", "math/big.mulAddVWW", "math/bits.Add64", "math/big.rshVU", "internal/bytealg.IndexByteString", "internal/bytealg.IndexString", "fmt.errorf", "math/big.lshVU"], unfollowed := true, recurses := true, named := ["io.EOF", "math/big.errInvalSep", "math/big.errNoDigits", "internal/bytealg.MaxLen"], apart := false, laid := [("io.EOF", laid_io_EOF), ("math/big.errNoDigits", laid_math_big_errNoDigits), ("math/big.errInvalSep", laid_math_big_errInvalSep)] }
/-- NO THEOREM (fmt's text is open here; it may be false): for the released tool's asking of the row's closed facts alone. THE STATEMENT IS 'FnParseReadsTheHexThatIDStringWritesToldSaid' (Qxb6608999aFmtCards.lean). -/
def FnParseReadsTheHexThatIDStringWritesFormAsk : Prop := fnParseReadsTheHexThatIDStringWritesRow.holds Tryf.pinned (OpenSpec.ofChange fnParseReadsTheHexThatIDStringWritesSpec)

/-- ITS FALSE NEIGHBOUR: 'it returns false'. Refute it at one input. -/
def fnParseReadsTheHexThatIDStringWritesWrong : ChangeSpec := { name := "fnParseReadsTheHexThatIDStringWrites", fn := fun _ => fun
  | [d1, d2] => { results := [.lit (.bool false)], args := [d1, d2] }
  | _ => none }
def FnParseReadsTheHexThatIDStringWritesWrongFormAsk : Prop := fnParseReadsTheHexThatIDStringWritesRow.holds Tryf.pinned (OpenSpec.ofChange fnParseReadsTheHexThatIDStringWritesWrong)

end Rows
end Go.Proofs.Qxb6608999aFmt

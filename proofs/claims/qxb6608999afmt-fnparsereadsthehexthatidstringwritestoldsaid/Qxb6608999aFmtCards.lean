/-
  DERIVED. GIVEN WITH THE SEED: THE CARDS: each row of Qxb6608999aFmtRows.lean that lists a variable, with what it lists TIED to the program's text (the seventh form; the later family's looks); each row that meets fmt, with fmt's text TOLD by the authors' own Lean function (tested against real Go, not proved from fmt's source: count such statements apart). THE CARD IS WHAT COUNTS. Prove the row's statement (the work); the ties are given (Qxb6608999aFmtTie.lean); close each card by the builder's one call (the guide's Derived/Test/ToyasCard.lean, 'card_holds'). Laid BY PROGRAM, IN A SANDBOX (cutbox-door.mjs). By AI agents, Wed Nov 11 2026. No macro, syntax, notation, axiom, sorry.
-/
import Derived.Test.Qxb6608999aFmtRows
import GoSem.ClaimSeven
namespace Go.Proofs.Qxb6608999aFmt
namespace Rows

/-- THE TOLD AND TIED CARD OF 'zzlaws_pkg_sim_b1.FnParseReadsTheHexThatIDStringWrites'. -/
def fnParseReadsTheHexThatIDStringWritesCard : Claim7 := { stood := { row := fnParseReadsTheHexThatIDStringWritesRow, standIns := [], harness := (true, "f7755fa2d0b319968eb16ab4830475225d8ad706958ce1d2ef649baa76ca3dbc"), looks := true }, told := true, laidByText := true, laidKinds := [.sentinel, .sentinel, .sentinel], laidTests := true, laidLooks := .later, goes := false }
def FnParseReadsTheHexThatIDStringWritesToldSaid : Prop := Claim7.holds Tryf.pinned (.plain (OpenSpec.ofChange fnParseReadsTheHexThatIDStringWritesSpec)) fnParseReadsTheHexThatIDStringWritesCard
/-- ITS FALSE NEIGHBOUR. Refute it at one input. -/
def FnParseReadsTheHexThatIDStringWritesToldWrongFalsely : Prop := Claim7.holds Tryf.pinned (.plain (OpenSpec.ofChange fnParseReadsTheHexThatIDStringWritesWrong)) fnParseReadsTheHexThatIDStringWritesCard
end Rows
end Go.Proofs.Qxb6608999aFmt

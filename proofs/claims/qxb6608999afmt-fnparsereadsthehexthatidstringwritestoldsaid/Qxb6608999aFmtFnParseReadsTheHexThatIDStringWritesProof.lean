/-
  'Rows.FnParseReadsTheHexThatIDStringWritesToldSaid': the row's step and the card.
-/
import Derived.Test.Qxb6608999aFmtLaw
import Derived.Test.Qxb6608999aFmtOpen
import Derived.Test.Qxb6608999aFmtTie
import Derived.Test.Qxb6608999aFmtCards
import Derived.Stop.JoinedTold
import Derived.Stop.LaidErr
import Derived.Deep.DeepWitnessRef
import Derived.Lay
import Derived.ProofKit
import Derived.SevenTiedAt
namespace Go.Proofs.Qxb6608999aFmt.fnParseReadsTheHexThatIDStringWrites
open Go.ChangeShapes Go.WideShapes Go.ChangeAt Go.RowKit
open Go.Extern.Stop Go.Stop Go.Extern
set_option linter.unusedVariables false

theorem own : ownKnob Tryf.prog.godebug = none := by kernel_rfl
theorem star : "*" ++ "errors.errorString" = "*errors.errorString" := by decide
theorem row79 (u : TypeId) (h : Tryf.prog.typeName? 3 u = some "*errors.errorString") : u = 79 :=
  typeName_ptr_named (nm := "errors.errorString") (by rw [star]; kernel_rfl) (by kernel_rfl) (by decide) u (by rw [star]; exact h)

/-- The law at every width. -/
theorem law_any (F : Interp) (B : Nat → Nat) (hB : ∀ i, B i < 256) (bits : Int) (e : Addr) (w : World) (hF : F.answers w.tape) (hE : EofIs e w) (hw : 0 < w.heap.size) :
    Calls Tryf.prog 3 #[.int .i64 bits, .agg (bcells B 20).toArray] w fun ev w' => ev = .returned (.bool true) ∧ Below w.heap.size w w' := by
  by_cases h : bits < 0 ∨ 160 < bits
  · exact law_out bits _ w (by simp [bcells]) h
  · obtain ⟨n, rfl⟩ := Int.eq_ofNat_of_zero_le (show 0 ≤ bits by omega)
    exact law_in F B hB n (by omega) e w hF hE hw

theorem witness_row (os : Os) {H : Type} (enc : TypeId × Value → H) :
    (OpenSpec.ofChange Rows.fnParseReadsTheHexThatIDStringWritesSpec).preRow enc Tryf.prog Tryf.f3 Rows.fnParseReadsTheHexThatIDStringWritesRow.domain false Rows.fnParseReadsTheHexThatIDStringWritesRow.laid
      ((World.laidAll Tryf.prog os Rows.fnParseReadsTheHexThatIDStringWritesRow.laid).forCall (fun _ _ => 0) ⟨#[], #[.int .i64 0, .agg (bcells (fun _ => 0) 20).toArray], []⟩).memory #[.int .i64 0, .agg (bcells (fun _ => 0) 20).toArray] :=
  OpenSpec.preRow_of_B rfl 8 (by kernel_rfl) (by kernel_rfl) (by rw [MakeChecks.laidMetH_plain _ _ _ (by kernel_rfl)]; exact laidMet_laidAll _ (by kernel_rfl) (by kernel_rfl))

set_option maxRecDepth 100000 in
theorem lifted (os : Os) (started : os.Started) (H : Type) (enc : TypeId × Value → H) :
    ReturnsInTold none {} Tryf.checked os 3 .any Input.okWide ((OpenSpec.ofChange Rows.fnParseReadsTheHexThatIDStringWritesSpec).preRow enc Tryf.prog Tryf.f3 Rows.fnParseReadsTheHexThatIDStringWritesRow.domain false Rows.fnParseReadsTheHexThatIDStringWritesRow.laid)
      (fun F => ((OpenSpec.ofChange Rows.fnParseReadsTheHexThatIDStringWritesSpec).at F).post enc Tryf.prog Tryf.f3 false true false false) (aloneAtReturn Tryf.prog) nothingAlways := by
  refine returnsInTold_of_row (C := Tryf.checked) (s := OpenSpec.ofChange Rows.fnParseReadsTheHexThatIDStringWritesSpec) (by kernel_rfl) own started (by kernel_rfl) Tryf.func3
    (OpenSpec.witness_stopped_atRef (enc := enc) (C := Tryf.checked) false (World.laidAll Tryf.prog os Rows.fnParseReadsTheHexThatIDStringWritesRow.laid) #[.int .i64 0, .agg (bcells (fun _ => 0) 20).toArray] (World.laidAll_os _ _ _) (by kernel_rfl) (by kernel_rfl) (by kernel_rfl) (witness_row os enc)) ?_
  intro F W base args ds gs before _ hF hval0 hW _ _ _ hL _
  have hval : ∀ (j : Nat) t v, Tryf.f3.params[j]? = some t → args[j]? = some v → Value.okWide Tryf.prog W .any base t v := hval0
  have hW' := hW
  obtain ⟨p, q, hA0, hV0, rfl, _, _⟩ := hW
  have hA : DataW.TrodAll enc Tryf.prog W 0 (fun _ => true) true Tryf.f3.params.toList args.toList ds p := hA0
  rw [Tryf.params3] at hA hval
  obtain ⟨v0, v1, d0, d1, p0, p1, rfl, rfl, rfl, h0, h1⟩ := trodAll_two hA
  obtain ⟨rfl, rfl⟩ := trodVars_none hV0
  obtain ⟨n, rfl, rfl, rfl, wn⟩ := open_int Tryf.underlying3 (hval 0 3 v0 rfl rfl) h0
  obtain ⟨B, hB, rfl, rfl, rfl⟩ := open20 (hval 1 22 v1 rfl rfl) h1
  clear hA0 hV0 hval0
  have hL' : laidMet Tryf.prog Rows.fnParseReadsTheHexThatIDStringWritesRow.laid W := by
    rw [← MakeChecks.laidMetH_plain _ _ _ (by kernel_rfl)]
    exact hL
  obtain ⟨a, t, hv, hc, _, _⟩ := laid_sentinel (g := 0) (tp := 79) hL' (by kernel_rfl) (by kernel_rfl) Tryf.underlying28 row79 Tryf.underlying79 Tryf.underlying81 rfl rfl Tryf.underlying9 (by kernel_rfl) (by kernel_rfl)
  have hE : EofIs a W := by
    have := World.var?_cell (show Tryf.prog.globalNamed "io.EOF" = some 0 by kernel_rfl) hv 0
    simpa [EofIs] using this
  have hw : 0 < W.heap.size := by
    rcases Nat.eq_zero_or_pos W.heap.size with h | h
    · simp [EofIs, World.cell?, Array.getElem?_eq_none (show W.heap.size ≤ 0 by omega)] at hE
    · exact h
  refine (law_any F.told B hB n a W hF hE hw).mono ?_
  rintro e W' ⟨rfl, bel⟩
  exact ⟨_, rfl, _, _, _, [], _, [], hW', trodAll_mk1 (shut_bool Tryf.underlying4 _), trodAll_mk2 (shut_int Tryf.underlying3 wn) (shut20 B hB), rfl, bel.frame _, fun h => by cases h⟩

theorem laidOut : laidOutB Tryf.pinned.checked.prog = true := by kernel_rfl
theorem stops : Tryf.pinned.checked.prog.stops = ["fmt.errorf", "fmt.Sprintf"] := by kernel_rfl
theorem stopKnobs : Tryf.pinned.checked.prog.stopKnobs = [] := by kernel_rfl
theorem quiet (os : Os) : Stop.quiet Tryf.pinned.checked.prog os := by
  intro k hk
  rw [stopKnobs] at hk
  cases hk

/-- ████ THE STATEMENT ████ -/
theorem proved : Rows.FnParseReadsTheHexThatIDStringWritesToldSaid :=
  Claim7.holds_of_told_tied_any_at .later 3 Tryf.f3 "fmt.errorf" ["fmt.Sprintf"] [] (true, "f7755fa2d0b319968eb16ab4830475225d8ad706958ce1d2ef649baa76ca3dbc") true false [.sentinel, .sentinel, .sentinel] true (by kernel_rfl) rfl rfl rfl laidOut (by kernel_rfl) rfl ⟨rfl, rfl, rfl, rfl, rfl, rfl, rfl⟩ rfl rfl (by kernel_rfl) (by kernel_rfl) Tryf.func3 (by kernel_rfl)
    (of_decide_eq_true (by kernel_rfl)) (of_decide_eq_true (by kernel_rfl)) stops.symm rfl stopKnobs.symm (by kernel_rfl)
    (by kernel_rfl) (by kernel_rfl) (by kernel_rfl) (by kernel_rfl) (by kernel_rfl) (by kernel_rfl) (by kernel_rfl) (by kernel_rfl) (by kernel_rfl) rfl (by kernel_rfl) rfl rfl
    rfl rfl
    rfl (by kernel_rfl) (by kernel_rfl) (by kernel_rfl) (by decide) (by kernel_rfl) fnParseReadsTheHexThatIDStringWrites_row_tie
    (OpenClaim.moreEntering_of (by kernel_rfl) (by kernel_rfl) (by kernel_rfl) (by kernel_rfl) (by kernel_rfl) (by kernel_rfl) (by kernel_rfl) (by kernel_rfl) (by kernel_rfl) (by kernel_rfl))
    ⟨_, WideRow.started_initial, quiet _⟩
    (fun os started _ H enc _ => lifted os started H enc)
end Go.Proofs.Qxb6608999aFmt.fnParseReadsTheHexThatIDStringWrites

/-
  'Rows.FnTargetCharIsPrintableASCIIOutsideTheDelimitersSaid': the walk of the law out of its callees' contracts, and the row's step (the kit's own shell).
-/
import Derived.Test.Qxb6605887aChars
import Derived.WalkKit
import Derived.ProofKit
import Derived.OpenShut
import Derived.ShutString
import Derived.ChangeOld
namespace Go.Proofs.Qxb6605887a.fnTargetCharIsPrintableASCIIOutsideTheDelimiters
open Go.ChangeShapes Go.WideShapes Go.ChangeAt Go.RowKit
open Go.ChangeMaps (open_string shut_string)
set_option linter.unusedVariables false      -- a walk need not use every 'w<i>' (that an integer argument fits its kind)

theorem own : ownKnob Try.prog.godebug = none := by kernel_rfl

/-- A rune that is no ASCII character. -/
theorem walk_out (r : Int) (w : World) (hr : r < 0 ∨ 128 ≤ r) :
    Calls Try.prog 3 #[.int .i32 r] w fun e w' => e = .returned (.bool true) ∧ Below w.heap.size w w' := by
  have HR : Hid (r < 0 ∨ 128 ≤ r) := hr
  rcases hr with hr | hr
  · go_enter Try.func3, Try.ntmps3
    go_wp2_with fail
    refine (zz_out r _ HR.out).mono ?_
    rintro e w' ⟨rfl, hb⟩
    have HB : Hid _ := hb
    clear hb
    go_wp2_with fail
    go_ret
    exact ⟨rfl, HB.out⟩
  · have e1 : decide (r ≤ 126) = false := decide_eq_false (by omega)
    go_enter Try.func3, Try.ntmps3
    go_wp2_with fail
    refine (zz_out r _ HR.out).mono ?_
    rintro e w' ⟨rfl, hb⟩
    have HB : Hid _ := hb
    clear hb
    go_wp2_with fail
    go_ret
    exact ⟨rfl, HB.out⟩

/-- An ASCII character. -/
theorem walk_in (c : Nat) (w : World) (hc : c < 128) :
    Calls Try.prog 3 #[.int .i32 c] w fun e w' => e = .returned (.bool true) ∧ Below w.heap.size w w' := by
  have ht : targetB c = wantB c := target_want ⟨c, hc⟩
  by_cases h1 : 33 ≤ c
  · by_cases h2 : c ≤ 126
    · have HT : Hid (targetB c = !delimB c) := by
        rw [Hid, ht]
        unfold wantB
        rw [decide_eq_true h1, decide_eq_true h2]; rfl
      clear ht
      obtain ⟨d, hd⟩ : ∃ d, delimB c = d := ⟨_, rfl⟩
      have HD : Hid (delimB c = d) := hd
      clear hd
      cases d
      all_goals
        go_enter Try.func3, Try.ntmps3
        go_wp2_with fail
        refine (delim_in c _).mono ?_
        rintro e w' ⟨rfl, rfl⟩
        rw [HD.out]
        go_wp2_with fail
        refine (zz_in c _ hc).mono ?_
        rintro e w2 ⟨rfl, rfl⟩
        rw [HT.out, HD.out]
        go_wp2_with fail
        go_ret
        exact ⟨rfl, Below.refl _ _⟩
    · have e1 : decide ((c : Int) ≤ 126) = false := decide_eq_false (by omega)
      have HT : Hid (targetB c = false) := by
        rw [Hid, ht]
        unfold wantB
        rw [decide_eq_false h2, Bool.and_false]; rfl
      clear ht
      go_enter Try.func3, Try.ntmps3
      go_wp2_with fail
      refine (zz_in c _ hc).mono ?_
      rintro e w2 ⟨rfl, rfl⟩
      rw [HT.out]
      go_wp2_with fail
      go_ret
      exact ⟨rfl, Below.refl _ _⟩
  · have HT : Hid (targetB c = false) := by
      rw [Hid, ht]
      unfold wantB
      rw [decide_eq_false h1]; rfl
    clear ht
    go_enter Try.func3, Try.ntmps3
    go_wp2_with fail
    refine (zz_in c _ hc).mono ?_
    rintro e w2 ⟨rfl, rfl⟩
    rw [HT.out]
    go_wp2_with fail
    go_ret
    exact ⟨rfl, Below.refl _ _⟩

theorem walk (a0 : Int) (w0 : (Lit.int .i32 a0).wf = true) (w : World) :
    Calls Try.prog 3 #[.int .i32 a0] w fun e w' => e = .returned (.bool true) ∧ Below w.heap.size w w' := by
  by_cases h : a0 < 0 ∨ 128 ≤ a0
  · exact walk_out a0 w h
  · obtain ⟨c, rfl⟩ := Int.eq_ofNat_of_zero_le (show 0 ≤ a0 by omega)
    exact walk_in c w (by omega)

/-! ### THE ROW's STEP: WRITTEN OUT: LEAVE IT -/
set_option maxRecDepth 100000 in
theorem lifted (os : Os) (started : os.Started) (H : Type) (enc : TypeId × Value → H) :
    ReturnsInHanded {} Try.checked os 3 .any (Rows.fnTargetCharIsPrintableASCIIOutsideTheDelimitersSpec.pre6 enc Try.prog Try.f3 Rows.fnTargetCharIsPrintableASCIIOutsideTheDelimitersRow.domain false) (Rows.fnTargetCharIsPrintableASCIIOutsideTheDelimitersSpec.post enc Try.prog Try.f3 false true false false) := by
  refine returnsInHanded_of_change (C := Try.checked) own started (by kernel_rfl) Try.func3
    (ChangeSpec.witness6 (enc := enc) (C := Try.checked) false ⟨#[], #[.int .i32 0], []⟩ 8 (by kernel_rfl) (by kernel_rfl) (by kernel_rfl) (by kernel_rfl)) ?_
  intro W base args ds gs before hval0 hW hcnd _
  have hval : ∀ (j : Nat) t v, Try.f3.params[j]? = some t → args[j]? = some v → Value.okWide Try.prog W .any base t v := hval0
  have hW' := hW
  obtain ⟨p, q, hA0, hV, rfl, hfz, hnd⟩ := hW
  have hA : DataW.TrodAll enc Try.prog W 0 (fun _ => true) true Try.f3.params.toList args.toList ds p := hA0
  rw [Try.params3] at hA hval
  obtain ⟨v0, vs0, d0, ds0, p0, q0, hargs, rfl, rfl, h0, r0⟩ := trodAll_cons hA
  obtain ⟨rfl, rfl, rfl⟩ := trodAll_nil r0
  obtain rfl : args = #[v0] := by cases args; simp_all
  obtain ⟨rfl, rfl⟩ := trodVars_none hV
  obtain ⟨a0, rfl, rfl, rfl, w0⟩ := open_int Try.underlying21 (hval 0 21 v0 rfl rfl) h0
  clear hA0 hval0
  simp only [List.append_nil] at hW'
  refine (walk a0 w0 W).mono fun e W' ⟨he, bel⟩ => ?_
  subst he
  exact ⟨_, rfl, _, _, _, [], _, [], hW', trodAll_mk1 (shut_bool Try.underlying4 _), (trodAll_cons_mk (shut_int Try.underlying21 w0) trodAll_mk0), rfl, bel.frame _, fun h => by cases h⟩

theorem over : Rows.fnTargetCharIsPrintableASCIIOutsideTheDelimitersRow.holds Try.pinned (OpenSpec.ofChange Rows.fnTargetCharIsPrintableASCIIOutsideTheDelimitersSpec) :=
  OpenClaim.holds_of_wide 3 Try.f3 rfl rfl rfl rfl rfl rfl rfl ⟨rfl, rfl, rfl, rfl, rfl⟩ rfl rfl rfl rfl rfl (by kernel_rfl) Try.func3 (by kernel_rfl)
    (of_decide_eq_true (by kernel_rfl)) (by unfold Func.isWrapper; first | (rw [if_pos (by decide +kernel)]; kernel_rfl) | (rw [if_neg (by decide +kernel)]; exact ⟨rfl, rfl⟩))
    (fun os started H enc _ => lifted os started H enc)

/-- ████ THE STATEMENT ████ -/
theorem proved : Rows.FnTargetCharIsPrintableASCIIOutsideTheDelimitersSaid :=
  over
end Go.Proofs.Qxb6605887a.fnTargetCharIsPrintableASCIIOutsideTheDelimiters

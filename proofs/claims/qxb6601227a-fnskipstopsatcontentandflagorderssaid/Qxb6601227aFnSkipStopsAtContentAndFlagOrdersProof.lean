/-
  'Rows.FnSkipStopsAtContentAndFlagOrdersSaid': the walk of the law out of its callees' contracts, and the row's step (the kit's own shell).
-/
import Derived.Test.Qxb6601227aZz
import Derived.WalkKit
import Derived.ProofKit
import Derived.OpenShut
import Derived.ShutString
import Derived.ChangeOld
namespace Go.Proofs.Qxb6601227a.fnSkipStopsAtContentAndFlagOrders
open Go.ChangeShapes Go.WideShapes Go.ChangeAt Go.RowKit
open Go.ChangeMaps (open_string shut_string)
set_option linter.unusedVariables false      -- a walk need not use every 'w<i>' (that an integer argument fits its kind)

theorem own : ownKnob Try.prog.godebug = none := by kernel_rfl

/-- The text is longer than the law's bound. -/
theorem walk_long (a0 : ByteArray) (a1 : Int) (w0 : a0.size ≤ maxLen) (w : World) (h : 1048576 < a0.size) :
    Calls Try.prog 6 #[.string a0, .int .i64 a1] w fun e w' => e = .returned (.bool true) ∧ Below w.heap.size w w' := by
  unfold maxLen at w0
  go_enter Try.func6, Try.ntmps6
  go_wp2_with (go_at_call 12; refine (bytes_no a0 _ _ h w0).mono ?_; rintro e w' ⟨rfl, rfl⟩)
  go_ret
  exact ⟨rfl, Below.refl _ _⟩

/-- The place is negative. -/
theorem walk_neg (a0 : ByteArray) (a1 : Int) (w : World) (h : a0.size ≤ 1048576) (hn : a1 < 0) :
    Calls Try.prog 6 #[.string a0, .int .i64 a1] w fun e w' => e = .returned (.bool true) ∧ Below w.heap.size w w' := by
  go_enter Try.func6, Try.ntmps6
  go_wp2_with (go_at_call 12; refine (bytes_ok a0 _ _ h).mono ?_; rintro e w' ⟨rfl, rfl⟩)
  go_ret
  exact ⟨rfl, Below.refl _ _⟩

theorem below_two {w w1 w2 : World} (h1 : Below w.heap.size w w1) (h2 : Below w1.heap.size w1 w2) : Below w.heap.size w w2 :=
  h1.trans (h2.mono h1.size)

/-- The place lies at or behind the text's end. -/
theorem walk_past (a0 : ByteArray) (p : Nat) (w : World) (h : a0.size ≤ 1048576) (hp : p ≤ 9223372036854775807) (hn : a0.size ≤ p) :
    Calls Try.prog 6 #[.string a0, .int .i64 p] w fun e w' => e = .returned (.bool true) ∧ Below w.heap.size w w' := by
  go_enter Try.func6, Try.ntmps6
  go_wp2_with (go_at_call 12; refine (bytes_ok a0 _ _ h).mono ?_; rintro e w' ⟨rfl, rfl⟩)
  refine (zzSkip_false a0 p _ h hp).mono ?_
  rintro e w1 ⟨q, rfl, hb, h1, h2, -, -⟩
  obtain rfl : q = p := by omega
  have HB : Hid _ := hb
  clear hb h1 h2
  go_wp2_with fail
  refine (zzSkip_true a0 q _ h hp).mono ?_
  rintro e w2 ⟨q2, rfl, hb2, h1, h2, -⟩
  obtain rfl : q2 = q := by omega
  have HB2 : Hid _ := hb2
  clear hb2 h1 h2
  go_wp2_with fail
  go_ret
  exact ⟨rfl, below_two HB.out HB2.out⟩

theorem ne_byte {c d : UInt8} (h : c ≠ d) : ((c.toNat : Int) == (d.toNat : Int)) = false := beq_eq_false_iff_ne.2 fun e => h (byte_eq e)

/-- The place lies inside the text. -/
theorem walk_in (a0 : ByteArray) (p : Nat) (w : World) (h : a0.size ≤ 1048576) (hp : p ≤ 9223372036854775807) (hn : p < a0.size) :
    Calls Try.prog 6 #[.string a0, .int .i64 p] w fun e w' => e = .returned (.bool true) ∧ Below w.heap.size w w' := by
  go_enter Try.func6, Try.ntmps6
  go_wp2_with (go_at_call 12; refine (bytes_ok a0 _ _ h).mono ?_; rintro e w' ⟨rfl, rfl⟩)
  refine (zzSkip_false a0 p _ h hp).mono ?_
  rintro e w1 ⟨q, rfl, hb, h1, h2, h3, h4⟩
  have hqn : q ≤ a0.size := by omega
  have HB : Hid _ := hb
  have H3 : Hid _ := h3
  have H4 : Hid _ := h4
  clear hb h2 h3 h4
  go_wp2_with fail
  refine (zzSkip_true a0 p _ h hp).mono ?_
  rintro e w2 ⟨q2, rfl, hb2, g1, g2, g4⟩
  have hqn2 : q2 ≤ a0.size := by omega
  have hqq : q ≤ q2 := by
    rcases Nat.lt_or_ge q2 q with hlt | hge
    · have h5 := H3.out q2 (by omega) g1 hlt
      have h6 := g4 (by omega)
      rcases h5 with h5 | h5
      · exact absurd h5 h6.1
      · exact absurd h5 h6.2.1
    · exact hge
  have HB2 : Hid _ := hb2
  have G4 : Hid _ := g4
  clear hb2 g2 g4
  go_wp2_with fail
  go_loop [8] (fun i => ∃ k : Nat, i = .int .i64 k ∧ p ≤ k ∧ k ≤ q) (fun i => q - (intOf i).toNat)
  case atStart => exact ⟨p, rfl, Nat.le_refl _, h1⟩
  case round =>
    obtain ⟨k, rfl, k1, k2⟩ := hrel
    by_cases hk : k < q
    · have hkn : k < a0.size := by omega
      have hc := H3.out k hkn k1 hk
      rcases hc with hc | hc
      all_goals
        have hcn : (a0[k].toNat : Int) = (a0[k].toNat : Int) := rfl
        rw (occs := [2]) [hc] at hcn
        clear hc
        go_wp2_with fail
        go_round
        case rel => exact ⟨k + 1, by go_num, by omega, by omega⟩
        case measure => simp [intOf]; omega
    · have hkq : (k : Int) = q := by omega
      clear H3
      by_cases hq : q < a0.size
      · have h4 := H4.out hq
        have f1 : ((a0[q].toNat : Int) == 32) = false := ne_byte (d := 32) h4.1
        have f2 : ((a0[q].toNat : Int) == 9) = false := ne_byte (d := 9) h4.2
        clear h4
        by_cases hq2 : q2 < a0.size
        · have g4 := G4.out hq2
          have e1 : ((a0[q2].toNat : Int) == 32) = false := ne_byte (d := 32) g4.1
          have e2 : ((a0[q2].toNat : Int) == 9) = false := ne_byte (d := 9) g4.2.1
          have e3 : ((a0[q2].toNat : Int) == 13) = false := ne_byte (d := 13) g4.2.2.1
          have e4 : ((a0[q2].toNat : Int) == 10) = false := ne_byte (d := 10) g4.2.2.2.1
          have e5 : ((a0[q2].toNat : Int) == 35) = false := ne_byte (d := 35) g4.2.2.2.2
          clear g4
          go_wp2_with fail
          go_ret
          exact ⟨rfl, below_two HB.out HB2.out⟩
        · go_wp2_with fail
          go_ret
          exact ⟨rfl, below_two HB.out HB2.out⟩
      · go_wp2_with fail
        go_ret
        exact ⟨rfl, below_two HB.out HB2.out⟩

theorem walk (a0 : ByteArray) (a1 : Int) (w0 : a0.size ≤ maxLen) (w1 : (Lit.int .i64 a1).wf = true) (w : World) :
    Calls Try.prog 6 #[.string a0, .int .i64 a1] w fun e w' => e = .returned (.bool true) ∧ Below w.heap.size w w' := by
  by_cases h : a0.size ≤ 1048576
  · by_cases hn : a1 < 0
    · exact walk_neg a0 a1 w h hn
    · obtain ⟨p, rfl⟩ := Int.eq_ofNat_of_zero_le (Int.not_lt.1 hn)
      have hp : p ≤ 9223372036854775807 := by have := bounds_i64 w1; omega
      by_cases hl : p < a0.size
      · exact walk_in a0 p w h hp hl
      · exact walk_past a0 p w h hp (by omega)
  · exact walk_long a0 a1 w0 w (by omega)

/-! ### THE ROW's STEP: WRITTEN OUT: LEAVE IT -/
set_option maxRecDepth 100000 in
theorem lifted (os : Os) (started : os.Started) (H : Type) (enc : TypeId × Value → H) :
    ReturnsInHanded {} Try.checked os 6 .any (Rows.fnSkipStopsAtContentAndFlagOrdersSpec.pre6 enc Try.prog Try.f6 Rows.fnSkipStopsAtContentAndFlagOrdersRow.domain false) (Rows.fnSkipStopsAtContentAndFlagOrdersSpec.post enc Try.prog Try.f6 false true false false) := by
  refine returnsInHanded_of_change (C := Try.checked) own started (by kernel_rfl) Try.func6
    (ChangeSpec.witness6 (enc := enc) (C := Try.checked) false ⟨#[], #[.string ByteArray.empty, .int .i64 0], []⟩ 8 (by kernel_rfl) (by kernel_rfl) (by kernel_rfl) (by kernel_rfl)) ?_
  intro W base args ds gs before hval0 hW hcnd _
  have hval : ∀ (j : Nat) t v, Try.f6.params[j]? = some t → args[j]? = some v → Value.okWide Try.prog W .any base t v := hval0
  have hW' := hW
  obtain ⟨p, q, hA0, hV, rfl, hfz, hnd⟩ := hW
  have hA : DataW.TrodAll enc Try.prog W 0 (fun _ => true) true Try.f6.params.toList args.toList ds p := hA0
  rw [Try.params6] at hA hval
  obtain ⟨v0, vs0, d0, ds0, p0, q0, hargs, rfl, rfl, h0, r0⟩ := trodAll_cons hA
  obtain ⟨v1, vs1, d1, ds1, p1, q1, rfl, rfl, rfl, h1, r1⟩ := trodAll_cons r0
  obtain ⟨rfl, rfl, rfl⟩ := trodAll_nil r1
  obtain rfl : args = #[v0, v1] := by cases args; simp_all
  obtain ⟨rfl, rfl⟩ := trodVars_none hV
  obtain ⟨a0, rfl, rfl, rfl, w0⟩ := open_string Try.underlying9 (hval 0 9 v0 rfl rfl) h0
  obtain ⟨a1, rfl, rfl, rfl, w1⟩ := open_int Try.underlying3 (hval 1 3 v1 rfl rfl) h1
  clear hA0 hval0
  simp only [List.append_nil] at hW'
  refine (walk a0 a1 w0 w1 W).mono fun e W' ⟨he, bel⟩ => ?_
  subst he
  exact ⟨_, rfl, _, _, _, [], _, [], hW', trodAll_mk1 (shut_bool Try.underlying4 _), (trodAll_cons_mk (shut_string Try.underlying9 w0) (trodAll_cons_mk (shut_int Try.underlying3 w1) trodAll_mk0)), rfl, bel.frame _, fun h => by cases h⟩

theorem over : Rows.fnSkipStopsAtContentAndFlagOrdersRow.holds Try.pinned (OpenSpec.ofChange Rows.fnSkipStopsAtContentAndFlagOrdersSpec) :=
  OpenClaim.holds_of_wide 6 Try.f6 rfl rfl rfl rfl rfl rfl rfl ⟨rfl, rfl, rfl, rfl, rfl⟩ rfl rfl rfl rfl rfl (by kernel_rfl) Try.func6 (by kernel_rfl)
    (of_decide_eq_true (by kernel_rfl)) (by unfold Func.isWrapper; first | (rw [if_pos (by decide +kernel)]; kernel_rfl) | (rw [if_neg (by decide +kernel)]; exact ⟨rfl, rfl⟩))
    (fun os started H enc _ => lifted os started H enc)

/-- ████ THE STATEMENT ████ -/
theorem proved : Rows.FnSkipStopsAtContentAndFlagOrdersSaid :=
  over
end Go.Proofs.Qxb6601227a.fnSkipStopsAtContentAndFlagOrders

import Derived.Test.Qxb6605887aRows
import Derived.Test.Qxb6605887aShelf
import Derived.WalkKit
import Derived.BigQuiet
import Derived.Deep.QuietTactic
import Derived.Deep.LoopGhost
import Derived.Laws.RangeString
import Derived.Laws.Strings3
import Derived.Lib.IndexBytes
namespace Go.Proofs.Qxb6605887a
open Go.RowKit
set_option linter.unusedVariables false

theorem bad_not_valid {r : Int} (h : r < 0 ∨ (55296 ≤ r ∧ r ≤ 57343) ∨ 1114111 < r) : Lib.validRune r = false := by
  unfold Lib.validRune
  exact decide_eq_false (by omega)
theorem good_valid {r : Int} (h : (0 ≤ r ∧ r < 55296) ∨ (57343 < r ∧ r ≤ 1114111)) : Lib.validRune r = true := by
  unfold Lib.validRune
  exact decide_eq_true (by omega)

set_option maxHeartbeats 1000000 in
set_option maxRecDepth 100000 in
/-- strings.IndexRune at a rune that is no code point: -1. -/
theorem indexRune_bad (s : ByteArray) (r : Int) (w : World) (h : r < 0 ∨ (55296 ≤ r ∧ r ≤ 57343) ∨ 1114111 < r) :
    Calls Try.prog 43 #[.string s, .int .i32 r] w fun e w' => e = .returned (.int .i64 (-1)) ∧ w' = w := by
  have hv := bad_not_valid h
  have he : (r == 65533) = false := beq_eq_false_iff_ne.2 (by omega)
  have HV : Hid (Lib.validRune r = false) := hv
  clear hv
  rcases h with h | ⟨h, h'⟩ | h
  all_goals
    go_enter Try.func43, Try.ntmps43
    go_wp2_with (go_at_call 45; refine (Try.utf8_ValidRune _ _).mono ?_; rintro e w' ⟨rfl, rfl⟩; rw [HV.out])
    go_ret
    exact ⟨rfl, rfl⟩

set_option maxHeartbeats 1000000 in
set_option maxRecDepth 100000 in
/-- strings.IndexRune at U+FFFD in a text of ASCII bytes: -1. -/
theorem indexRune_fffd (s : ByteArray) (w : World) (hs : s.size ≤ 1000) (ha : ∀ i (h : i < s.size), s[i].toNat < 128) :
    Calls Try.prog 43 #[.string s, .int .i32 65533] w fun e w' => e = .returned (.int .i64 (-1)) ∧ Below w.heap.size w w' := by
  have HA : Hid (∀ i (h : i < s.size), s[i].toNat < 128) := ha
  clear ha
  go_enter Try.func43, Try.ntmps43
  go_wp2_with fail
  go_loopg [5, 6] s.size (fun g _ _ wx => ∃ i : Nat, i + g = s.size ∧ wx = w.iter s i)
  case atStart => exact ⟨0, by omega, rfl⟩
  case round =>
    obtain ⟨i, hig, rfl⟩ := hrel
    cases gk with
    | zero =>
      obtain rfl : i = s.size := by omega
      have hnx := run_next_end (P := Try.prog) w s s.size
      go_wp2_with fail
      go_ret
      exact ⟨rfl, (Below.refl _ _).alloc (Nat.le_refl _) _⟩
    | succ g =>
      have hi : i < s.size := by omega
      have hx := HA.out i hi
      have hnx := fun ty => run_next_ascii (P := Try.prog) w s i ty hi hx
      have hne : ((s[i].toNat : Int) == 65533) = false := beq_eq_false_iff_ne.2 (by omega)
      go_wp2_with fail
      go_roundg g
      case measure => omega
      case rel => exact ⟨i + 1, by omega, rfl⟩
end Go.Proofs.Qxb6605887a

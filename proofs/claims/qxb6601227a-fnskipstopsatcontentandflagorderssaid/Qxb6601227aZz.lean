import Derived.Test.Qxb6601227aSkip
namespace Go.Proofs.Qxb6601227a
open Go.RowKit
set_option linter.unusedVariables false

theorem at_new (text : ByteArray) (p : Nat) (w : World) :
    At w.heap.size text (w.alloc (.cells #[.string text, .int .i64 p, .slice none 0 0, .map none, .map none, .map none] 34)) p
      (w.alloc (.cells #[.string text, .int .i64 p, .slice none 0 0, .map none, .map none, .map none] 34)) := by
  refine ⟨?_, ?_, ?_, Below.refl _ _⟩
  · go_simp
  · go_simp
  · go_simp

theorem below_new {w w' : World} {o : Obj} (h : Below w.heap.size (w.alloc o) w') : Below w.heap.size w w' :=
  ((Below.refl _ _).alloc (Nat.le_refl _) o).trans h

theorem zzSkip_false (text : ByteArray) (p : Nat) (w : World) (ht : text.size ≤ 1048576) (hp : p ≤ 9223372036854775807) :
    Calls Try.prog 11 #[.string text, .int .i64 p, .bool false] w fun e w' => ∃ q : Nat, e = .returned (.int .i64 q) ∧ Below w.heap.size w w' ∧
      p ≤ q ∧ (q ≤ text.size ∨ q = p) ∧ (∀ i (h : i < text.size), p ≤ i → i < q → text[i] = 32 ∨ text[i] = 9) ∧ (∀ (h : q < text.size), text[q] ≠ 32 ∧ text[q] ≠ 9) := by
  go_enter Try.func11, Try.ntmps11
  go_wp2_with fail
  refine (skip_false text p w.heap.size _ ht hp (at_new text p w)).mono ?_
  rintro e w' ⟨rfl, q, hq, h1, h2, h3, h4⟩
  have HA : Hid _ := hq
  have H3 : Hid _ := h3
  have H4 : Hid _ := h4
  obtain ⟨t, pp, f, _⟩ := hq
  clear h3 h4
  go_wp2_with fail
  go_ret
  exact ⟨q, rfl, below_new HA.out.o, h1, h2, H3.out, H4.out⟩

theorem zzSkip_true (text : ByteArray) (p : Nat) (w : World) (ht : text.size ≤ 1048576) (hp : p ≤ 9223372036854775807) :
    Calls Try.prog 11 #[.string text, .int .i64 p, .bool true] w fun e w' => ∃ q : Nat, e = .returned (.int .i64 q) ∧ Below w.heap.size w w' ∧
      p ≤ q ∧ (q ≤ text.size ∨ q = p) ∧ (∀ (h : q < text.size), text[q] ≠ 32 ∧ text[q] ≠ 9 ∧ text[q] ≠ 13 ∧ text[q] ≠ 10 ∧ text[q] ≠ 35) := by
  go_enter Try.func11, Try.ntmps11
  go_wp2_with fail
  refine (skip_true text p w.heap.size _ ht hp (at_new text p w)).mono ?_
  rintro e w' ⟨rfl, q, hq, h1, h2, h4⟩
  have HA : Hid _ := hq
  have H4 : Hid _ := h4
  obtain ⟨t, pp, f, _⟩ := hq
  clear h4
  go_wp2_with fail
  go_ret
  exact ⟨q, rfl, below_new HA.out.o, h1, h2, H4.out⟩

theorem bytes_ok (text : ByteArray) (p : Int) (w : World) (ht : text.size ≤ 1048576) :
    Calls Try.prog 12 #[.string text, .int .i64 p] w fun e w' => e = .returned (.bool true) ∧ w' = w := by
  go_enter Try.func12, Try.ntmps12
  go_wp2
  go_ret
  exact ⟨rfl, rfl⟩

theorem bytes_no (text : ByteArray) (p : Int) (w : World) (ht : 1048576 < text.size) (hs : text.size ≤ 9223372036854775807) :
    Calls Try.prog 12 #[.string text, .int .i64 p] w fun e w' => e = .returned (.bool false) ∧ w' = w := by
  go_enter Try.func12, Try.ntmps12
  go_wp2
  go_ret
  exact ⟨rfl, rfl⟩
end Go.Proofs.Qxb6601227a

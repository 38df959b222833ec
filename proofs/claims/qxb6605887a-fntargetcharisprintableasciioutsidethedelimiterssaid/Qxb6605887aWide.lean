import Derived.Test.Qxb6605887aRunes
import Derived.Laws.Runes
import Derived.WalkMore
namespace Go.Proofs.Qxb6605887a
open Go.RowKit
set_option linter.unusedVariables false

/-- A text of ASCII bytes. -/
def Ascii (s : ByteArray) : Prop := ∀ i (h : i < s.size), s[i].toNat < 128

theorem Ascii.mem {s : ByteArray} (h : Ascii s) : ∀ b ∈ s.data.toList, b.toNat < 128 := by
  intro b hb
  obtain ⟨i, hi, rfl⟩ := List.getElem_of_mem hb
  exact h i (by simpa using hi)

theorem idx_wide {s : ByteArray} (h : Ascii s) (a : Nat) (c : Nat) (h1 : 128 ≤ c) (h2 : c < 256) (w : World) :
    Calls Try.prog 44 #[.string (s.extract a s.size), .int .u8 c] w fun e w' => e = .returned (.int .i64 (-1)) ∧ w' = w := by
  refine (Try.strings_IndexByte _ _ w).mono ?_
  rintro e w' ⟨rfl, rfl⟩
  refine ⟨?_, rfl⟩
  rw [← Lib.firstIdx_eq, firstIdx_ascii s a s.size _ h.mem]
  simp
  omega

set_option maxHeartbeats 1000000 in
set_option maxRecDepth 100000 in
/-- strings.IndexRune at a wide rune in a text of ASCII bytes: -1. -/
theorem indexRune_wide (s : ByteArray) (r : Int) (w : World) (hs : s.size ≤ 1000) (ha : Ascii s) (h128 : 128 ≤ r) (hv : (0 ≤ r ∧ r < 55296) ∨ (57343 < r ∧ r ≤ 1114111)) (hne : r ≠ 65533) :
    Calls Try.prog 43 #[.string s, .int .i32 r] w fun e w' => e = .returned (.int .i64 (-1)) ∧ ∃ n, w' = w.drewN n := by
  have HV : Hid (Lib.validRune r = true) := good_valid hv
  have he : (r == 65533) = false := beq_eq_false_iff_ne.2 hne
  obtain ⟨f1, f2, f3⟩ := encode_facts r (by rw [validRune_eq]; exact decide_eq_true hv) h128
  obtain ⟨E, hE⟩ : ∃ E, Utf8.encode r = E := ⟨_, rfl⟩
  rw [hE] at f1 f2
  obtain ⟨l, hl⟩ : ∃ l, E.size = l + 1 := ⟨E.size - 1, by omega⟩
  have hlt : l < E.size := by omega
  have f4 : 128 ≤ (E[l]'hlt).toNat := by
    subst hE
    have : l = (Utf8.encode r).size - 1 := by omega
    subst this
    exact f3 hlt
  have hsz : (E.size : Int) = (l : Int) + 1 := by omega
  have hix : ∀ w, (Instr.index 9 (.string E) (.int .i64 (l : Int))).run Try.prog w = .ok (.int .u8 ((E[l]'hlt).toNat : Int)) w := by
    intro w
    rw [run_index_string w 9 E .i64 l Try.underlying9, dif_pos ⟨by omega, by omega⟩]
    rfl
  have hl3 : l ≤ 3 := by omega
  clear f3 hv hne f1 f2 hl
  have HA : Hid (Ascii s) := ha
  clear ha
  have f5 : (E[l]'hlt).toNat < 256 := (E[l]'hlt).toNat_lt
  by_cases hin : l < s.size
  · have hx := HA.out l hin
    have HC : Hid (∀ w, Calls Try.prog 44 #[.string (s.extract (l + 1) s.size), .int .u8 ((E[l]'hlt).toNat : Int)] w fun e w' => e = .returned (.int .i64 (-1)) ∧ w' = w) :=
      fun w => idx_wide HA.out (l + 1) _ f4 f5 w
    have hwr : IntKind.i64.wrap ((l : Int) + 1) = (l : Int) + 1 := wrap_small _ (by omega) (by omega)
    have hs0 : (0 : Int) ≤ (l : Int) + 1 := by omega
    have hs1 : (l : Int) + 1 ≤ (s.size : Int) := by omega
    have hs2 : ((l : Int) + 1).toNat = l + 1 := by omega
    have hxx : ((s[l].toNat : Int) != ((E[l]'hlt).toNat : Int)) = true := by rw [bne_iff_ne]; omega
    go_enter Try.func43, Try.ntmps43
    go_wp2_with (go_at_call 45; refine (Try.utf8_ValidRune _ _).mono ?_; rintro e w' ⟨rfl, rfl⟩; rw [HV.out])
    go_step3
    go_wp2_with fail
    refine wp_loop_rounds 1 ?_; rw [rounds_succ]
    go_wp2_with fail
    go_step3
    go_wp2_with fail
    go_quiet (fail)
    go_wp2_with fail
    go_quiet ((go_at_call 44; refine (HC.out _).mono ?_; rintro e w2 ⟨rfl, rfl⟩; exact ⟨rfl, _, rfl⟩))
    go_wp2_with fail
    simp only [Exit.noGoto_ret, Exit.inBlock, Exit.then]
    go_ret
    exact ⟨rfl, _, rfl⟩
  · go_enter Try.func43, Try.ntmps43
    go_wp2_with (go_at_call 45; refine (Try.utf8_ValidRune _ _).mono ?_; rintro e w' ⟨rfl, rfl⟩; rw [HV.out])
    go_step3
    go_wp2_with fail
    refine wp_loop_rounds 1 ?_; rw [rounds_succ]
    go_wp2_with fail
    rw [Exit.noGoto_ret]
    go_ret
    exact ⟨rfl, 0, rfl⟩
end Go.Proofs.Qxb6605887a

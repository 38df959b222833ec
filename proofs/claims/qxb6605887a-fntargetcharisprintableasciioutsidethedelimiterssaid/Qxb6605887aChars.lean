import Derived.Test.Qxb6605887aWide
import Derived.WalkSmall
namespace Go.Proofs.Qxb6605887a
open Go.RowKit
set_option linter.unusedVariables false

/-- strings.IndexRune at whatever rune that is no ASCII, in a text of ASCII bytes: -1. -/
theorem indexRune_out (s : ByteArray) (r : Int) (w : World) (hs : s.size ≤ 1000) (ha : Ascii s) (hr : r < 0 ∨ 128 ≤ r) :
    Calls Try.prog 43 #[.string s, .int .i32 r] w fun e w' => e = .returned (.int .i64 (-1)) ∧ Below w.heap.size w w' := by
  by_cases hb : r < 0 ∨ (55296 ≤ r ∧ r ≤ 57343) ∨ 1114111 < r
  · refine (indexRune_bad s r w hb).mono ?_
    rintro e w' ⟨rfl, rfl⟩
    exact ⟨rfl, Below.refl _ _⟩
  · by_cases he : r = 65533
    · subst he
      exact indexRune_fffd s w hs ha
    · refine (indexRune_wide s r w hs ha (by omega) (by omega) he).mono ?_
      rintro e w' ⟨rfl, n, rfl⟩
      exact ⟨rfl, below_drewN (Below.refl _ _) n⟩

theorem containsRune_out (s : ByteArray) (r : Int) (w : World) (hs : s.size ≤ 1000) (ha : Ascii s) (hr : r < 0 ∨ 128 ≤ r) :
    Calls Try.prog 41 #[.string s, .int .i32 r] w fun e w' => e = .returned (.bool false) ∧ Below w.heap.size w w' := by
  have HR : Hid (r < 0 ∨ 128 ≤ r) := hr
  have HA : Hid (Ascii s) := ha
  clear hr ha
  go_enter Try.func41, Try.ntmps41
  go_wp2_with fail
  refine (indexRune_out s r _ hs HA.out HR.out).mono ?_
  rintro e w' ⟨rfl, hb⟩
  have HB : Hid _ := hb
  clear hb
  go_wp2_with fail
  go_ret
  exact ⟨rfl, HB.out⟩

/-- The two texts of the program. -/
theorem ascii1 : Ascii ⟨#[45, 46, 95, 126, 33, 36, 38, 39, 40, 41, 42, 43, 44, 59, 61]⟩ := by
  unfold Ascii
  decide
theorem ascii2 : Ascii ⟨#[58, 64, 47, 63]⟩ := by
  unfold Ascii
  decide

theorem host_out (r : Int) (w : World) (hr : r < 0 ∨ 128 ≤ r) :
    Calls Try.prog 40 #[.int .i32 r] w fun e w' => e = .returned (.bool false) ∧ Below w.heap.size w w' := by
  have HR : Hid (r < 0 ∨ 128 ≤ r) := hr
  rcases hr with hr | hr
  · go_enter Try.func40, Try.ntmps40
    go_wp2_with fail
    refine (containsRune_out _ r _ (by decide) ascii1 HR.out).mono ?_
    rintro e w' ⟨rfl, hb⟩
    have HB : Hid _ := hb
    clear hb
    go_wp2_with fail
    go_ret
    exact ⟨rfl, HB.out⟩
  · have e1 : decide (r ≤ 90) = false := decide_eq_false (by omega)
    have e2 : decide (r ≤ 122) = false := decide_eq_false (by omega)
    have e3 : decide (r ≤ 57) = false := decide_eq_false (by omega)
    go_enter Try.func40, Try.ntmps40
    go_wp2_with fail
    refine (containsRune_out _ r _ (by decide) ascii1 HR.out).mono ?_
    rintro e w' ⟨rfl, hb⟩
    have HB : Hid _ := hb
    clear hb
    go_wp2_with fail
    go_ret
    exact ⟨rfl, HB.out⟩

theorem target_out (r : Int) (w : World) (hr : r < 0 ∨ 128 ≤ r) :
    Calls Try.prog 32 #[.int .i32 r] w fun e w' => e = .returned (.bool false) ∧ Below w.heap.size w w' := by
  have HR : Hid (r < 0 ∨ 128 ≤ r) := hr
  clear hr
  go_enter Try.func32, Try.ntmps32
  go_wp2_with fail
  refine (host_out r _ HR.out).mono ?_
  rintro e w' ⟨rfl, hb⟩
  have HB : Hid _ := hb
  clear hb
  go_wp2_with fail
  refine (containsRune_out _ r _ (by decide) ascii2 HR.out).mono ?_
  rintro e w2 ⟨rfl, hb⟩
  have HB2 : Hid _ := hb
  clear hb
  go_wp2_with fail
  go_ret
  exact ⟨rfl, HB.out.trans (HB2.out.mono HB.out.size)⟩

/-- hostChar, targetChar at an ASCII character. -/
def inB (l : List UInt8) (c : Nat) : Bool := decide (0 ≤ Lib.indexByte l c.toUInt8)
def alnumB (c : Nat) : Bool := decide ((65 ≤ c ∧ c ≤ 90) ∨ (97 ≤ c ∧ c ≤ 122) ∨ (48 ≤ c ∧ c ≤ 57))
def hostB (c : Nat) : Bool := alnumB c || inB [45, 46, 95, 126, 33, 36, 38, 39, 40, 41, 42, 43, 44, 59, 61] c
def targetB (c : Nat) : Bool := hostB c || inB [58, 64, 47, 63] c
def delimB (c : Nat) : Bool := decide (c = 34 ∨ c = 35 ∨ c = 37 ∨ c = 60 ∨ c = 62 ∨ c = 91 ∨ c = 92 ∨ c = 93 ∨ c = 94 ∨ c = 96 ∨ c = 123 ∨ c = 124 ∨ c = 125)
def wantB (c : Nat) : Bool := decide (33 ≤ c) && decide (c ≤ 126) && !delimB c
theorem target_want : ∀ c : Fin 128, targetB c = wantB c := by decide +kernel

theorem contains_in (s : ByteArray) (c : Nat) (w : World) (hc : c < 128) :
    Calls Try.prog 41 #[.string s, .int .i32 c] w fun e w' => e = .returned (.bool (inB s.data.toList c)) ∧ w' = w :=
  (Try.strings_ContainsRune_ascii s c w (by omega) (by omega)).mono fun e w' h => h

theorem host_in (c : Nat) (w : World) (hc : c < 128) :
    Calls Try.prog 40 #[.int .i32 c] w fun e w' => e = .returned (.bool (hostB c)) ∧ w' = w := by
  by_cases hal : (65 ≤ c ∧ c ≤ 90) ∨ (97 ≤ c ∧ c ≤ 122) ∨ (48 ≤ c ∧ c ≤ 57)
  · have HT : Hid (hostB c = true) := by
      unfold hostB alnumB
      rw [decide_eq_true hal]; rfl
    rcases hal with h | h | h
    all_goals
      obtain ⟨h1, h2⟩ := h
      go_enter Try.func40, Try.ntmps40
      go_wp2_with fail
      go_ret
      exact ⟨by rw [HT.out]; rfl, rfl⟩
  · have HT : Hid (hostB c = inB [45, 46, 95, 126, 33, 36, 38, 39, 40, 41, 42, 43, 44, 59, 61] c) := by
      unfold hostB alnumB
      rw [decide_eq_false hal]; rfl
    rcases (show c < 48 ∨ (57 < c ∧ c < 65) ∨ (90 < c ∧ c < 97) ∨ 122 < c from by omega) with h | ⟨h, h'⟩ | ⟨h, h'⟩ | h
    all_goals
      clear hal
      try have e1 : decide ((c : Int) ≤ 90) = false := decide_eq_false (by omega)
      try have e2 : decide ((c : Int) ≤ 122) = false := decide_eq_false (by omega)
      try have e3 : decide ((c : Int) ≤ 57) = false := decide_eq_false (by omega)
      go_enter Try.func40, Try.ntmps40
      go_wp2_with fail
      refine (contains_in _ c _ hc).mono ?_
      rintro e w' ⟨rfl, rfl⟩
      rw [show inB (⟨#[45, 46, 95, 126, 33, 36, 38, 39, 40, 41, 42, 43, 44, 59, 61]⟩ : ByteArray).data.toList c = hostB c from HT.out.symm]
      go_wp2_with fail
      go_ret
      exact ⟨rfl, rfl⟩

theorem target_in (c : Nat) (w : World) (hc : c < 128) :
    Calls Try.prog 32 #[.int .i32 c] w fun e w' => e = .returned (.bool (targetB c)) ∧ w' = w := by
  cases hh : hostB c
  · have HT : Hid (targetB c = inB [58, 64, 47, 63] c) := by
      unfold targetB
      rw [hh]; rfl
    have HH : Hid (hostB c = false) := hh
    clear hh
    go_enter Try.func32, Try.ntmps32
    go_wp2_with fail
    refine (host_in c _ hc).mono ?_
    rintro e w' ⟨rfl, rfl⟩
    rw [HH.out]
    go_wp2_with fail
    refine (contains_in _ c _ hc).mono ?_
    rintro e w2 ⟨rfl, rfl⟩
    rw [show inB (⟨#[58, 64, 47, 63]⟩ : ByteArray).data.toList c = targetB c from HT.out.symm]
    go_wp2_with fail
    go_ret
    exact ⟨rfl, rfl⟩
  · have HT : Hid (targetB c = true) := by
      unfold targetB
      rw [hh]; rfl
    have HH : Hid (hostB c = true) := hh
    clear hh
    go_enter Try.func32, Try.ntmps32
    go_wp2_with fail
    refine (host_in c _ hc).mono ?_
    rintro e w' ⟨rfl, rfl⟩
    rw [HH.out]
    go_wp2_with fail
    go_ret
    exact ⟨by rw [HT.out]; rfl, rfl⟩

theorem delim_in (c : Nat) (w : World) :
    Calls Try.prog 9 #[.int .i32 c] w fun e w' => e = .returned (.bool (delimB c)) ∧ w' = w := by
  by_cases hd : c = 34 ∨ c = 35 ∨ c = 37 ∨ c = 60 ∨ c = 62 ∨ c = 91 ∨ c = 92 ∨ c = 93 ∨ c = 94 ∨ c = 96 ∨ c = 123 ∨ c = 124 ∨ c = 125
  · rcases hd with rfl | rfl | rfl | rfl | rfl | rfl | rfl | rfl | rfl | rfl | rfl | rfl | rfl
    all_goals
      go_enter Try.func9, Try.ntmps9
      go_wp2_with fail
      go_ret
      exact ⟨rfl, rfl⟩
  · have HD : Hid (delimB c = false) := by
      unfold delimB
      exact decide_eq_false hd
    have f34 : ((c : Int) == 34) = false := beq_eq_false_iff_ne.2 (by omega)
    have f35 : ((c : Int) == 35) = false := beq_eq_false_iff_ne.2 (by omega)
    have f37 : ((c : Int) == 37) = false := beq_eq_false_iff_ne.2 (by omega)
    have f60 : ((c : Int) == 60) = false := beq_eq_false_iff_ne.2 (by omega)
    have f62 : ((c : Int) == 62) = false := beq_eq_false_iff_ne.2 (by omega)
    have f91 : ((c : Int) == 91) = false := beq_eq_false_iff_ne.2 (by omega)
    have f92 : ((c : Int) == 92) = false := beq_eq_false_iff_ne.2 (by omega)
    have f93 : ((c : Int) == 93) = false := beq_eq_false_iff_ne.2 (by omega)
    have f94 : ((c : Int) == 94) = false := beq_eq_false_iff_ne.2 (by omega)
    have f96 : ((c : Int) == 96) = false := beq_eq_false_iff_ne.2 (by omega)
    have f123 : ((c : Int) == 123) = false := beq_eq_false_iff_ne.2 (by omega)
    have f124 : ((c : Int) == 124) = false := beq_eq_false_iff_ne.2 (by omega)
    have f125 : ((c : Int) == 125) = false := beq_eq_false_iff_ne.2 (by omega)
    clear hd
    go_enter Try.func9, Try.ntmps9
    go_wp2_with fail
    go_ret
    exact ⟨by rw [HD.out]; rfl, rfl⟩

theorem zz_in (c : Nat) (w : World) (hc : c < 128) :
    Calls Try.prog 10 #[.int .i32 c] w fun e w' => e = .returned (.bool (targetB c)) ∧ w' = w := by
  go_enter Try.func10, Try.ntmps10
  go_wp2_with (go_at_call 32; refine (target_in c _ hc).mono ?_; rintro e w' ⟨rfl, rfl⟩)
  go_ret
  exact ⟨rfl, rfl⟩

theorem zz_out (r : Int) (w : World) (hr : r < 0 ∨ 128 ≤ r) :
    Calls Try.prog 10 #[.int .i32 r] w fun e w' => e = .returned (.bool false) ∧ Below w.heap.size w w' := by
  have HR : Hid (r < 0 ∨ 128 ≤ r) := hr
  clear hr
  go_enter Try.func10, Try.ntmps10
  go_wp2_with fail
  refine (target_out r _ HR.out).mono ?_
  rintro e w' ⟨rfl, hb⟩
  have HB : Hid _ := hb
  clear hb
  go_wp2_with fail
  go_ret
  exact ⟨rfl, HB.out⟩
end Go.Proofs.Qxb6605887a

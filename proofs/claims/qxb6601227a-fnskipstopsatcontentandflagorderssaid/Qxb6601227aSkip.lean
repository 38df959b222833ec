import Derived.Test.Qxb6601227aRows
import Derived.Test.Qxb6601227aShelf
import Derived.WalkKit
import Derived.BigQuiet
import Derived.Deep.QuietTactic
import Derived.Deep.LoopGhost
import Derived.RowKit3
import Derived.WalkSmall
import Derived.Lib.IndexBytes
namespace Go.Proofs.Qxb6601227a
open Go.RowKit
set_option linter.unusedVariables false

/-- keyScanner.done: reads, and answers whether the place is at or behind the text's end. -/
theorem done_any (text : ByteArray) (p : Int) (b : Nat) (w : World)
    (h0 : w.cell? ⟨b, 0, none⟩ = some (.string text)) (h1 : w.cell? ⟨b, 1, none⟩ = some (.int .i64 p)) :
    Calls Try.prog 15 #[.pointer (some ⟨b, 0, none⟩)] w fun e w' => e = .returned (.bool (decide ((text.size : Int) ≤ p))) ∧ ∃ n, w' = w.drewN n := by
  go_enter Try.func15, Try.ntmps15
  go_wp2
  go_quiet (fail)
  go_wp2
  go_ret
  exact ⟨rfl, _, rfl⟩

theorem done_no (text : ByteArray) (p : Nat) (b : Nat) (w : World) (h : p < text.size)
    (h0 : w.cell? ⟨b, 0, none⟩ = some (.string text)) (h1 : w.cell? ⟨b, 1, none⟩ = some (.int .i64 p)) :
    Calls Try.prog 15 #[.pointer (some ⟨b, 0, none⟩)] w fun e w' => e = .returned (.bool false) ∧ ∃ n, w' = w.drewN n := by
  refine (done_any text p b w h0 h1).mono ?_
  rintro e w' ⟨rfl, h2⟩
  exact ⟨by rw [decide_eq_false (by omega)], h2⟩
theorem done_yes (text : ByteArray) (p : Nat) (b : Nat) (w : World) (h : text.size ≤ p)
    (h0 : w.cell? ⟨b, 0, none⟩ = some (.string text)) (h1 : w.cell? ⟨b, 1, none⟩ = some (.int .i64 p)) :
    Calls Try.prog 15 #[.pointer (some ⟨b, 0, none⟩)] w fun e w' => e = .returned (.bool true) ∧ ∃ n, w' = w.drewN n := by
  refine (done_any text p b w h0 h1).mono ?_
  rintro e w' ⟨rfl, h2⟩
  exact ⟨by rw [decide_eq_true (by omega)], h2⟩

theorem ret_int {k : IntKind} {a b : Int} (h : a = b) : Ending.returned (.int k a) = .returned (.int k b) := by rw [h]

theorem idx_at (text : ByteArray) (p : Nat) (hp : p < text.size) :
    ∃ X : Int, (∀ w, Calls Try.prog 17 #[.string (text.extract p text.size), .int .u8 10] w fun e w' => e = .returned (.int .i64 X) ∧ w' = w) ∧
      -1 ≤ X ∧ X + p < text.size ∧ (text[p] ≠ 10 → X ≠ 0) := by
  refine ⟨_, fun w => Try.strings_IndexByte _ _ w, Lib.indexByte_ge _ _, ?_, ?_⟩
  · rcases Lib.indexByte_piece text p text.size (10 : Int).toNat.toUInt8 with h | ⟨o, h, ho⟩
    · rw [h]; omega
    · rw [h]; omega
  · intro hne h
    have h1 := (Lib.indexByte_some (o := 0) (by simpa using h)).1
    apply hne
    have h2 : text.data.toList[p]? = some 10 := by
      rw [List.getElem?_take] at h1
      split at h1
      · simpa using h1
      · simp at h1
    have h3 : text.data.toList[p]'(by simpa using hp) = 10 := by
      rw [List.getElem?_eq_getElem (by simpa using hp)] at h2
      simpa using h2
    exact h3

theorem lineEnd_any (text : ByteArray) (p : Nat) (b : Nat) (w : World) (hp : p < text.size) (ht : text.size ≤ 1048576)
    (h0 : w.cell? ⟨b, 0, none⟩ = some (.string text)) (h1 : w.cell? ⟨b, 1, none⟩ = some (.int .i64 p)) :
    Calls Try.prog 16 #[.pointer (some ⟨b, 0, none⟩)] w fun e w' => ∃ r : Nat, e = .returned (.int .i64 r) ∧ p ≤ r ∧ r ≤ text.size ∧ (text[p] ≠ 10 → p < r) ∧ ∃ n, w' = w.drewN n := by
  obtain ⟨X, hc, hX1, hX2, hX3⟩ := idx_at text p hp
  have HC : Hid (∀ w, Calls Try.prog 17 #[.string (text.extract p text.size), .int .u8 10] w fun e w' => e = .returned (.int .i64 X) ∧ w' = w) := hc
  have H3 : Hid (text[p] ≠ 10 → X ≠ 0) := hX3
  clear hc hX3
  go_enter Try.func16, Try.ntmps16
  go_wp2_with fail
  go_quiet ((go_at_call 17; exact Calls.quiet_of_same (HC.out _)))
  go_wp2
  · have hX0 : 0 ≤ X := by assumption
    go_ret
    refine ⟨p + X.toNat, ret_int (by omega), by omega, by omega, fun h => ?_, _, rfl⟩
    · have := H3.out h
      omega
  · go_ret
    exact ⟨text.size, rfl, by omega, by omega, fun _ => hp, _, rfl⟩

/-- What the scanner's block holds, and that nothing older has turned. -/
structure At (b : Nat) (text : ByteArray) (w : World) (q : Nat) (wr : World) : Prop where
  t : wr.cell? ⟨b, 0, none⟩ = some (.string text)
  p : wr.cell? ⟨b, 1, none⟩ = some (.int .i64 q)
  f : wr.frozen? ⟨b, 1, none⟩ = false
  o : Below b w wr

theorem At.drewN {b : Nat} {text : ByteArray} {w wr : World} {q : Nat} (h : At b text w q wr) (n : Nat) : At b text w q (wr.drewN n) :=
  ⟨h.t, h.p, h.f, below_drewN h.o n⟩

theorem At.moved {b : Nat} {text : ByteArray} {w wr : World} {q : Nat} (h : At b text w q wr) (n : Nat) (r : Nat) (v : Int) (hv : v = r) :
    At b text w r ((wr.drewN n).setCell ⟨b, 1, none⟩ (.int .i64 v)) := by
  subst hv
  have h' := h.drewN n
  refine ⟨?_, World.cell?_setCell_same _ _ _ h'.p, ?_, h'.o.setCell (Nat.le_refl _) _⟩
  · rw [World.cell?_setCell_other _ _ _ _ (by simp)]; exact h'.t
  · rw [World.frozen?_setCell]; exact h'.f

theorem byte_eq {c d : UInt8} (h : (c.toNat : Int) = d.toNat) : c = d := UInt8.toNat_inj.1 (by omega)

/-- keyScanner.skip(false). -/
theorem skip_false (text : ByteArray) (p : Nat) (b : Nat) (w : World) (ht : text.size ≤ 1048576) (hp : p ≤ 9223372036854775807) (hA : At b text w p w) :
    Calls Try.prog 14 #[.pointer (some ⟨b, 0, none⟩), .bool false] w fun e w' => e = .returned (.tuple #[]) ∧ ∃ q : Nat, At b text w q w' ∧
      p ≤ q ∧ (q ≤ text.size ∨ q = p) ∧ (∀ i (h : i < text.size), p ≤ i → i < q → text[i] = 32 ∨ text[i] = 9) ∧ (∀ (h : q < text.size), text[q] ≠ 32 ∧ text[q] ≠ 9) := by
  have HA : Hid (At b text w p w) := hA
  clear hA
  go_enter Try.func14, Try.ntmps14
  go_wp2_with fail
  go_loopg [4] text.size (fun k c wr => ∃ q : Nat, At b text w q wr ∧ p ≤ q ∧ (q ≤ text.size ∨ q = p) ∧ text.size - q ≤ k ∧ (∀ i (h : i < text.size), p ≤ i → i < q → text[i] = 32 ∨ text[i] = 9))
  case atStart => exact ⟨p, HA.out, Nat.le_refl _, Or.inr rfl, by omega, fun i _ h1 h2 => absurd h2 (by omega)⟩
  case round =>
    obtain ⟨q, hq, hpq, hqn, hk, hb⟩ := hrel
    have HB : Hid (∀ i (h : i < text.size), p ≤ i → i < q → text[i] = 32 ∨ text[i] = 9) := hb
    have HQ : Hid (At b text w q wr) := hq
    obtain ⟨t, pp, f, _⟩ := hq
    clear hb
    by_cases hlt : q < text.size
    · go_wp2_with (go_at_call 15; refine (done_no text q b _ hlt t pp).mono ?_; rintro e w' ⟨rfl, n, rfl⟩)
      go_quiet (fail)
      by_cases hc : text[q] = 32 ∨ text[q] = 9
      · have HB' : Hid (∀ i (h : i < text.size), p ≤ i → i < q + 1 → text[i] = 32 ∨ text[i] = 9) := by
          intro i h h1 h2
          rcases Nat.lt_or_ge i q with h3 | h3
          · exact HB.out i h h1 h3
          · obtain rfl : i = q := by omega
            exact hc
        rcases hc with hc | hc
        all_goals
          have hcn : (text[q].toNat : Int) = (text[q].toNat : Int) := rfl
          rw (occs := [2]) [hc] at hcn
          clear hc
          go_wp2_with fail
          go_roundg (text.size - (q + 1))
          case measure => omega
          case rel => exact ⟨q + 1, HQ.out.moved _ _ _ (by omega), by omega, Or.inl (by omega), by omega, HB'.out⟩
      · have h1 : ¬ (text[q].toNat : Int) = 32 := fun h => hc (Or.inl (byte_eq (d := 32) h))
        have h2 : ¬ (text[q].toNat : Int) = 9 := fun h => hc (Or.inr (byte_eq (d := 9) h))
        have g1 : ((text[q].toNat : Int) == 32) = false := beq_eq_false_iff_ne.2 h1
        have g2 : ((text[q].toNat : Int) == 9) = false := beq_eq_false_iff_ne.2 h2
        clear h1 h2
        have HC : Hid (text[q] ≠ 32 ∧ text[q] ≠ 9) := ⟨fun h => hc (Or.inl h), fun h => hc (Or.inr h)⟩
        clear hc
        go_wp2_with fail
        refine bodyPost_ret (results_none rfl _ _ _) rfl ?_
        exact ⟨rfl, q, HQ.out.drewN _, hpq, hqn, HB.out, fun _ => HC.out⟩
    · go_wp2_with (go_at_call 15; refine (done_yes text q b _ (by omega) t pp).mono ?_; rintro e w' ⟨rfl, n, rfl⟩)
      go_end0
      exact ⟨rfl, q, HQ.out.drewN n, hpq, hqn, HB.out, fun h => absurd h hlt⟩

/-- keyScanner.skip(true). -/
theorem skip_true (text : ByteArray) (p : Nat) (b : Nat) (w : World) (ht : text.size ≤ 1048576) (hp : p ≤ 9223372036854775807) (hA : At b text w p w) :
    Calls Try.prog 14 #[.pointer (some ⟨b, 0, none⟩), .bool true] w fun e w' => e = .returned (.tuple #[]) ∧ ∃ q : Nat, At b text w q w' ∧
      p ≤ q ∧ (q ≤ text.size ∨ q = p) ∧ (∀ (h : q < text.size), text[q] ≠ 32 ∧ text[q] ≠ 9 ∧ text[q] ≠ 13 ∧ text[q] ≠ 10 ∧ text[q] ≠ 35) := by
  have HA : Hid (At b text w p w) := hA
  clear hA
  go_enter Try.func14, Try.ntmps14
  go_wp2_with fail
  go_loopg [4] text.size (fun k c wr => ∃ q : Nat, At b text w q wr ∧ p ≤ q ∧ (q ≤ text.size ∨ q = p) ∧ text.size - q ≤ k)
  case atStart => exact ⟨p, HA.out, Nat.le_refl _, Or.inr rfl, by omega⟩
  case round =>
    obtain ⟨q, hq, hpq, hqn, hk⟩ := hrel
    have HQ : Hid (At b text w q wr) := hq
    obtain ⟨t, pp, f, _⟩ := hq
    by_cases hlt : q < text.size
    · go_wp2_with (go_at_call 15; refine (done_no text q b _ hlt t pp).mono ?_; rintro e w' ⟨rfl, n, rfl⟩)
      go_quiet (fail)
      by_cases hc : text[q] = 32 ∨ text[q] = 9 ∨ text[q] = 13 ∨ text[q] = 10
      · rcases hc with hc | hc | hc | hc
        all_goals
          have hcn : (text[q].toNat : Int) = (text[q].toNat : Int) := rfl
          rw (occs := [2]) [hc] at hcn
          clear hc
          go_wp2_with fail
          go_roundg (text.size - (q + 1))
          case measure => omega
          case rel => exact ⟨q + 1, HQ.out.moved _ _ _ (by omega), by omega, Or.inl (by omega), by omega⟩
      · have g1 : ((text[q].toNat : Int) == 32) = false := beq_eq_false_iff_ne.2 fun h => hc (Or.inl (byte_eq (d := 32) h))
        have g2 : ((text[q].toNat : Int) == 9) = false := beq_eq_false_iff_ne.2 fun h => hc (Or.inr (Or.inl (byte_eq (d := 9) h)))
        have g3 : ((text[q].toNat : Int) == 13) = false := beq_eq_false_iff_ne.2 fun h => hc (Or.inr (Or.inr (Or.inl (byte_eq (d := 13) h))))
        have g4 : ((text[q].toNat : Int) == 10) = false := beq_eq_false_iff_ne.2 fun h => hc (Or.inr (Or.inr (Or.inr (byte_eq (d := 10) h))))
        have HC : Hid (text[q] ≠ 32 ∧ text[q] ≠ 9 ∧ text[q] ≠ 13 ∧ text[q] ≠ 10) := ⟨fun h => hc (Or.inl h), fun h => hc (Or.inr (Or.inl h)), fun h => hc (Or.inr (Or.inr (Or.inl h))), fun h => hc (Or.inr (Or.inr (Or.inr h)))⟩
        clear hc
        by_cases h35 : text[q] = 35
        · have g5 : ((text[q].toNat : Int) == 35) = true := by rw [h35]; rfl
          clear h35
          go_wp2_with (go_at_call 16; refine (lineEnd_any text q b _ hlt ht (by exact t) (by exact pp)).mono ?_; rintro e w' ⟨r, rfl, hr1, hr2, hr3, n, rfl⟩)
          have hr := hr3 HC.out.2.2.2
          go_roundg (text.size - r)
          case measure => omega
          case rel => exact ⟨r, HQ.out.moved _ _ _ (by omega), by omega, Or.inl (by omega), by omega⟩
        · have g5 : ((text[q].toNat : Int) == 35) = false := beq_eq_false_iff_ne.2 fun h => h35 (byte_eq (d := 35) h)
          have H5 : Hid (text[q] ≠ 35) := h35
          clear h35
          go_wp2_with fail
          refine bodyPost_ret (results_none rfl _ _ _) rfl ?_
          exact ⟨rfl, q, HQ.out.drewN _, hpq, hqn, fun _ => ⟨HC.out.1, HC.out.2.1, HC.out.2.2.1, HC.out.2.2.2, H5.out⟩⟩
    · go_wp2_with (go_at_call 15; refine (done_yes text q b _ (by omega) t pp).mono ?_; rintro e w' ⟨rfl, n, rfl⟩)
      go_end0
      exact ⟨rfl, q, HQ.out.drewN n, hpq, hqn, fun h => absurd h hlt⟩
end Go.Proofs.Qxb6601227a

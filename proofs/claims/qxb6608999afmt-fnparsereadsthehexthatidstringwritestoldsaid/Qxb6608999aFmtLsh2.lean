/-
  math/big's same, alias, nat.make, nat.lsh.
-/
import Derived.Test.Qxb6608999aFmtLsh
import Derived.Lib.SliceRun
import Derived.Laws.IdiomCopy
namespace Go.Proofs.Qxb6608999aFmt
open Go.RowKit
set_option linter.unusedVariables false

theorem there82 : (Tryf.prog.info? 82).map (fun i => i.size) = some 1 := by kernel_rfl

theorem eq_ptr (a : Addr) (w : World) : (binOp .eql 100 (.pointer (some a)) (.pointer (some a))).run Tryf.prog w = .ok (.bool true) w := by
  obtain ⟨i, h1, _⟩ := Option.map_eq_some_iff.1 there82
  have h : ∀ d : Nat, (Op.equalIn (d + 1) 100 (.pointer (some a)) (.pointer (some a))).run Tryf.prog w = .ok true w := fun d => by simp [Op.equalIn, run_underlying Tryf.underlying100, sizeOf, typeInfo, h1, run_sameAddr_same]
  simp only [binOp]
  simp [Op.equal, Op.maxDepth, h 9999]

theorem same_nil (b cap : Nat) (w : World) : Calls Tryf.prog 42 #[.slice (some ⟨b, 0, none⟩) 0 cap, .slice (some ⟨b, 0, none⟩) 0 cap] w fun e w' => e = .returned (.bool false) ∧ ∃ q, w' = w.drewN q := by
  go_enter Tryf.func42, Tryf.ntmps42
  go_wp2_with fail
  go_quiet (fail)
  go_wp2_with fail
  go_ret
  exact ⟨rfl, _, rfl⟩

theorem same_any (b cap m : Nat) (w : World) (hm : 1 ≤ m) (hm2 : m ≤ 3) : Calls Tryf.prog 42 #[.slice (some ⟨b, 0, none⟩) m cap, .slice (some ⟨b, 0, none⟩) m cap] w fun e w' => e = .returned (.bool true) ∧ ∃ q, w' = w.drewN q := by
  have h0 : (0 : Int) < (m : Int) := by omega
  have q1 := eq_ptr ⟨b, 0, none⟩
  have d1 : decide (0 < m) = true := decide_eq_true (by omega)
  go_enter Tryf.func42, Tryf.ntmps42
  go_wp2_with fail
  go_quiet (fail)
  go_wp2_with fail
  go_ret
  exact ⟨rfl, _, rfl⟩

theorem alias_any (b cap : Nat) (w : World) (hm : 1 ≤ cap) (hm2 : cap ≤ 9223372036854775807) : Calls Tryf.prog 43 #[.slice (some ⟨b, 0, none⟩) 0 cap, .slice (some ⟨b, 0, none⟩) 0 cap] w fun e w' => e = .returned (.bool true) ∧ ∃ q, w' = w.drewN q := by
  obtain ⟨c, rfl⟩ : ∃ c, cap = c + 1 := ⟨cap - 1, by omega⟩
  have h0 : (0 : Int) < ((c + 1 : Nat) : Int) := by omega
  have q1 := eq_ptr ⟨b, c, none⟩
  go_enter Tryf.func43, Tryf.ntmps43
  go_wp2_with fail
  go_quiet (fail)
  go_wp2_with fail
  go_ret
  exact ⟨rfl, _, rfl⟩

theorem mk2 (w : World) : (Instr.makeSlice 40 (.int .i64 2) (.int .i64 6)).run Tryf.prog w = .ok (.slice (some ⟨w.heap.size, 0, none⟩) 2 6) (w.alloc (.cells (Array.replicate 6 (.int .u64 0)) 82)) := by kernel_rfl
theorem mk3 (w : World) : (Instr.makeSlice 40 (.int .i64 3) (.int .i64 7)).run Tryf.prog w = .ok (.slice (some ⟨w.heap.size, 0, none⟩) 3 7) (w.alloc (.cells (Array.replicate 7 (.int .u64 0)) 82)) := by kernel_rfl
theorem mk4 (w : World) : (Instr.makeSlice 40 (.int .i64 4) (.int .i64 8)).run Tryf.prog w = .ok (.slice (some ⟨w.heap.size, 0, none⟩) 4 8) (w.alloc (.cells (Array.replicate 8 (.int .u64 0)) 82)) := by kernel_rfl

set_option maxRecDepth 100000 in
/-- nat.make: in place, or anew. -/
theorem make_any (b m cap n : Nat) (w : World) (hA : ∀ t, t < cap → ∃ v, w.cell? ⟨b, t, none⟩ = some v) (hf : ∀ t, w.frozen? ⟨b, t, none⟩ = false) (hb : b < w.heap.size) (hm : m ≤ cap) (hcm : cap ≤ 9223372036854775807) (hn : 2 ≤ n) (hn4 : n ≤ 4) :
    Calls Tryf.prog 45 #[.slice (some ⟨b, 0, none⟩) m cap, .int .i64 (n : Int)] w fun e w' => ∃ D c, e = .returned (.slice (some ⟨D, 0, none⟩) n c) ∧ n ≤ c ∧ c ≤ 9223372036854775807 ∧ (∀ t, t < c → ∃ v, w'.cell? ⟨D, t, none⟩ = some v) ∧ (∀ t, w'.frozen? ⟨D, t, none⟩ = false) ∧
      (D = b ∨ w.heap.size ≤ D) ∧ D < w'.heap.size ∧ Below w.heap.size w w' := by
  by_cases h : n ≤ cap
  · refine (make_reuse _ m cap n w h hm hcm).mono ?_
    rintro e w' ⟨rfl, rfl⟩
    exact ⟨b, cap, rfl, h, hcm, hA, hf, Or.inl rfl, hb, Below.refl _ _⟩
  · clear hA hf
    have k2 := mk2
    have k3 := mk3
    have k4 := mk4
    obtain rfl | rfl | rfl : n = 2 ∨ n = 3 ∨ n = 4 := by omega
    all_goals
      go_enter Tryf.func45, Tryf.ntmps45
      go_wp2_with fail
      go_ret
      refine ⟨w.heap.size, _, rfl, by omega, by omega, fun t ht => ?_, fun t => ?_, Or.inr (Nat.le_refl _), by simp, (Below.refl _ w).alloc (Nat.le_refl _) _⟩
      · exact ⟨.int .u64 0, by simp [ht]⟩
      · simp

theorem wd_low (X k t : Nat) (h : t < k) : wd (X * 18446744073709551616 ^ k) t = 0 := by
  unfold wd
  obtain ⟨d, rfl⟩ : ∃ d, k = t + 1 + d := ⟨k - t - 1, by omega⟩
  rw [Nat.pow_add, Nat.pow_succ]
  have : X * (18446744073709551616 ^ t * 18446744073709551616 * 18446744073709551616 ^ d) = 18446744073709551616 ^ t * (18446744073709551616 * (X * 18446744073709551616 ^ d)) := by
    generalize 18446744073709551616 ^ t = a
    generalize 18446744073709551616 ^ d = c
    rw [Nat.mul_assoc a, Nat.mul_left_comm X a, Nat.mul_left_comm X]
  rw [this, Nat.mul_div_cancel_left _ (Nat.pow_pos (by decide)), Nat.mul_mod_right]

theorem wd_high (X k t : Nat) : wd (X * 18446744073709551616 ^ k) (k + t) = wd X t := by
  unfold wd
  rw [Nat.pow_add, ← Nat.div_div_eq_div_mul, Nat.mul_div_cancel _ (Nat.pow_pos (by decide))]

theorem wd_up (T r t : Nat) (hr : r ≤ 64) : wd (T * 2 ^ r) t = upW r (wd T t) (prevW (wd T) t) := by
  unfold wd prevW
  rcases t with _ | t
  · simp only [Nat.pow_zero, Nat.div_one, if_true]
    exact word_up0 T r
  · rw [if_neg (by omega)]
    exact word_up T r t hr

theorem shift_split (T s : Nat) : T * 2 ^ s = T * 2 ^ (s % 64) * 18446744073709551616 ^ (s / 64) := by
  have : (18446744073709551616 : Nat) ^ (s / 64) = 2 ^ (64 * (s / 64)) := by rw [Nat.pow_mul]
  rw [this, Nat.mul_assoc, ← Nat.pow_add, show s % 64 + 64 * (s / 64) = s from by omega]

/-- The words of what is shifted up by s = 64 k + r. -/
theorem wd_shl (T s k r t : Nat) (hk : s / 64 = k) (hr : s % 64 = r) : wd (T * 2 ^ s) (k + t) = upW r (wd T t) (prevW (wd T) t) := by
  subst hk
  subst hr
  rw [shift_split, wd_high, wd_up _ _ _ (by omega)]

theorem wd_shl_low (T s k t : Nat) (hk : s / 64 = k) (ht : t < k) : wd (T * 2 ^ s) t = 0 := by
  subst hk
  rw [shift_split]
  exact wd_low _ _ _ ht

theorem wd_big (T i : Nat) (hT : T < 1461501637330902918203684832716283019655932542976) (hi : 3 ≤ i) : wd T i = 0 := by
  unfold wd
  have h3 : 18446744073709551616 ^ 3 ≤ 18446744073709551616 ^ i := Nat.pow_le_pow_right (by decide) hi
  have h4 : T < 18446744073709551616 ^ 3 := by
    have : 18446744073709551616 ^ 3 = 6277101735386680763835789423207666416102355444464034512896 := by decide
    omega
  rw [Nat.div_eq_of_lt (by omega)]

/-- What the words say of the number, when all beyond n are nought. -/
theorem natAt_of {w : World} {D c n mm X : Nat} (hX : X < 1461501637330902918203684832716283019655932542976) (hc : n ≤ c) (hcm : c ≤ 9223372036854775807) (hex : ∀ t, t < c → ∃ v, w.cell? ⟨D, t, none⟩ = some v) (hf : ∀ t, w.frozen? ⟨D, t, none⟩ = false)
    (hcell : ∀ t, t < n → w.cell? ⟨D, t, none⟩ = some (.int .u64 (wd X t : Int))) (hhigh : ∀ t, n ≤ t → wd X t = 0) (h1 : mm ≤ n) (h2 : ∀ i, mm ≤ i → i < n → wd X i = 0) (h3 : mm = 0 ∨ wd X (mm - 1) ≠ 0) (hp : 1 ≤ c) : NatAt w D c mm X := by
  refine ⟨⟨fun t => (w.cell? ⟨D, t, none⟩).getD .nilIface, ⟨fun t ht => ?_, hf⟩, fun t ht => ?_⟩, by omega, ?_, hcm, fun i hi => ?_, h3, hX, hp⟩
  · obtain ⟨v, hv⟩ := hex t ht
    rw [hv]
    rfl
  · show (w.cell? ⟨D, t, none⟩).getD .nilIface = _
    rw [hcell t (by omega)]
    rfl
  · rcases h3 with rfl | h3
    · omega
    · by_cases h : mm ≤ 3
      · exact h
      · exact absurd (wd_big X (mm - 1) hX (by omega)) h3
  · by_cases h : i < n
    · exact h2 i hi h
    · exact hhigh i (by omega)

/-- T's words and its shift leave m + k words. -/
theorem words_fit (T s m : Nat) (hm : 1 ≤ m) (htop : wd T (m - 1) ≠ 0) (hX : T * 2 ^ s < 1461501637330902918203684832716283019655932542976) : m + s / 64 ≤ 3 := by
  by_cases h : m + s / 64 ≤ 3
  · exact h
  · exfalso
    have hT : 18446744073709551616 ^ (m - 1) ≤ T := by
      by_cases h1 : 18446744073709551616 ^ (m - 1) ≤ T
      · exact h1
      · exfalso
        apply htop
        unfold wd
        rw [Nat.div_eq_of_lt (by omega)]
    rw [shift_split] at hX
    have h2 : 18446744073709551616 ^ (m - 1) * 1 * 18446744073709551616 ^ (s / 64) ≤ T * 2 ^ (s % 64) * 18446744073709551616 ^ (s / 64) :=
      Nat.mul_le_mul_right _ (Nat.mul_le_mul hT (Nat.two_pow_pos _))
    rw [Nat.mul_one, ← Nat.pow_add] at h2
    have h3 : 18446744073709551616 ^ 3 ≤ 18446744073709551616 ^ (m - 1 + s / 64) := Nat.pow_le_pow_right (by decide) (by omega)
    have h4 : (18446744073709551616 : Nat) ^ 3 = 6277101735386680763835789423207666416102355444464034512896 := by decide
    omega
end Go.Proofs.Qxb6608999aFmt
